/-
  SEAT b4395a: the contract of zzs4395bitem (9).
-/
import Derived.Test.YbulkclzoSeq
namespace Go.Proofs.Ybulkclzo.Seq
open Go.ChangeShapes Go.WideShapes Go.ChangeAt Go.RowKit

/-- The cells of a row of releases, the first 'k' of them laid. -/
def relF (ys : List Int) (k : Nat) (i : Nat) : Value :=
  if i % 2 = 0 then .int .i32 (if i / 2 < k then ys.getD (i / 2) 0 else 0) else .int .i64 (if i / 2 < k then ((i / 2 : Nat) : Int) else 0)

theorem run_make_rel (n : Nat) (hn : n ≤ 100000) (w : World) :
    (Instr.makeSlice 39 (.int .i64 (n : Int)) (.int .i64 (n : Int))).run Yba.prog w = .ok (.slice (some ⟨w.heap.size, 0, none⟩) n n) (w.alloc (.cells (madeCells #[.int .i32 0, .int .i64 0] (n * 2)) 57)) := by
  have hinfo : (Yba.prog.info? 57).map (fun i => (i.zero, i.size, i.bytes)) = some (some (.agg #[.int .i32 0, .int .i64 0]), 2, 16) := by kernel_rfl
  obtain ⟨i0, hi0, hz0, hz1, hz2⟩ := info_parts hinfo
  have hr := run_make (P := Yba.prog) w 39 57 i0 _ Yba.underlying39 hi0 hz0 .i64 .i64 n n (by omega) (Int.le_refl _) (by rw [hz2]; omega) (by omega)
  rw [hz1] at hr
  simpa [Value.cells] using hr

theorem rel_made (w : World) (ys : List Int) (n : Nat) : (w.alloc (.cells (madeCells #[.int .i32 0, .int .i64 0] (n * 2)) 57)).rowIs w.heap.size 57 (n * 2) (relF ys 0) := by
  refine ⟨_, Go.Deep.blk_alloc_new _ _, size_madeCells _ _, fun i hi => ?_⟩
  have h2 : i % 2 = 0 ∨ i % 2 = 1 := by omega
  rcases h2 with h | h <;> simp [madeCells, hi, relF, h]

theorem rel_set {w : World} {R n k : Nat} {ys : List Int} (h : w.rowIs R 57 (n * 2) (relF ys k)) : ((w.setCell ⟨R, k * 2, none⟩ (.int .i32 (ys.getD k 0))).setCell ⟨R, k * 2 + 1, none⟩ (.int .i64 (k : Int))).rowIs R 57 (n * 2) (relF ys (k + 1)) := by
  refine ((h.set (k * 2) _).set (k * 2 + 1) _).congr fun j hj => ?_
  by_cases e1 : j = k * 2 + 1
  · subst e1
    have a1 : (k * 2 + 1) % 2 = 1 := by omega
    have a2 : (k * 2 + 1) / 2 = k := by omega
    simp [relF, a1, a2]
  · by_cases e2 : j = k * 2
    · subst e2
      have a1 : (k * 2) % 2 = 0 := by omega
      have a2 : (k * 2) / 2 = k := by omega
      simp [relF, a1, a2]
    · have a1 : (j / 2 < k + 1) ↔ (j / 2 < k) := by omega
      simp only [if_neg e1, if_neg e2, relF, a1]

theorem info45 : (Yba.prog.info? 45).map (fun i => (i.size)) = some 20 := by kernel_rfl

/-- The item that zzs4395bitem makes, as far as mode 'm' and the records go: its block 'bi', the row 'rb' of its releases of mode m, the record 'v' of mode m. -/
def ItemIs (w : World) (bi rb m : Nat) (xs : List Int) (v : Int) : Prop :=
  ∃ f, w.rowIs bi 45 20 f ∧ f (5 + m) = .slice (some ⟨rb, 0, none⟩) xs.length xs.length ∧ (∀ j, j < 5 → f (15 + j) = .int .i32 (if j = m then v else (j : Int) + 7)) ∧ w.rowIs rb 57 (xs.length * 2) (relF xs xs.length)

/-- The item after the modes below 'k'. -/
def ItemTo (w wr : World) (m : Nat) (xs : List Int) (k : Nat) : Prop :=
  Below w.heap.size w wr ∧ ∃ f, wr.rowIs w.heap.size 45 20 f ∧ (∀ j, j < 5 → f (15 + j) = .int .i32 (if j < k ∧ j ≠ m then (j : Int) + 7 else 0)) ∧
    (m < k → ∃ rb, w.heap.size < rb ∧ f (5 + m) = .slice (some ⟨rb, 0, none⟩) xs.length xs.length ∧ wr.rowIs rb 57 (xs.length * 2) (relF xs xs.length))

def item0 : Array Value := #[.int .i64 0, .int .i64 0, .int .i64 0, .int .i64 0, .int .i64 0, .slice none 0 0, .slice none 0 0, .slice none 0 0, .slice none 0 0, .slice none 0 0,
  .pointer none, .pointer none, .pointer none, .pointer none, .pointer none, .int .i32 0, .int .i32 0, .int .i32 0, .int .i32 0, .int .i32 0]

theorem item_start (w : World) (m : Nat) (xs : List Int) : ItemTo w (w.alloc (.cells item0 45)) m xs 0 := by
  refine ⟨(Below.refl _ _).alloc (Nat.le_refl _) _, fun i => item0.getD i (.int .i32 0), World.rowIs_alloc w item0 45 _ (fun i hi => by simp [hi]), ?_, fun h => absurd h (by omega)⟩
  intro j hj
  have h5 : j = 0 ∨ j = 1 ∨ j = 2 ∨ j = 3 ∨ j = 4 := by omega
  rcases h5 with rfl | rfl | rfl | rfl | rfl <;> rfl

theorem item_step_m {w wr wi : World} {m k n : Nat} {xs : List Int} (h : ItemTo w wr m xs k) (hl : xs.length = n) (hk5 : k < 5) (hkm : k = m) (hri : wi.rowIs wr.heap.size 57 (n * 2) (relF xs n)) (hbi : Below wr.heap.size wr wi) :
    ItemTo w (wi.setCell ⟨w.heap.size, 5 + k, none⟩ (.slice (some ⟨wr.heap.size, 0, none⟩) n n)) m xs (k + 1) := by
  subst hl hkm
  obtain ⟨hb, f, hrow, hseq, _⟩ := h
  have hlt := hrow.lt
  refine ⟨(hb.trans (hbi.mono hb.size)).setCell (Nat.le_refl _) _, _, (hrow.of_block (hbi.block _ hlt)).set (5 + k) _, ?_, fun _ => ⟨wr.heap.size, hlt, by simp, hri.setOther (by show wr.heap.size ≠ w.heap.size; omega) _⟩⟩
  intro j hj
  have e : ¬ (15 + j = 5 + k) := by omega
  have hk := hseq j hj
  simp only [if_neg e, hk]
  have : (j < k + 1 ∧ j ≠ k) ↔ (j < k ∧ j ≠ k) := by omega
  simp only [this]

theorem item_step_o {w wr wi : World} {m k n : Nat} {xs os : List Int} (h : ItemTo w wr m xs k) (_ : os.length = n) (hk5 : k < 5) (hkm : k ≠ m) (_ : wi.rowIs wr.heap.size 57 (n * 2) (relF os n)) (hbi : Below wr.heap.size wr wi) :
    ItemTo w ((wi.setCell ⟨w.heap.size, 5 + k, none⟩ (.slice (some ⟨wr.heap.size, 0, none⟩) n n)).setCell ⟨w.heap.size, 15 + k, none⟩ (.int .i32 ((k : Int) + 7))) m xs (k + 1) := by
  obtain ⟨hb, f, hrow, hseq, hm⟩ := h
  have hlt := hrow.lt
  refine ⟨((hb.trans (hbi.mono hb.size)).setCell (Nat.le_refl _) _).setCell (Nat.le_refl _) _, _, ((hrow.of_block (hbi.block _ hlt)).set (5 + k) _).set (15 + k) _, ?_, fun hlm => ?_⟩
  · intro j hj
    by_cases e : j = k
    · subst e
      have c : j < j + 1 ∧ j ≠ m := ⟨by omega, hkm⟩
      simp only [if_true, if_pos c]
    · have e1 : ¬ (15 + j = 15 + k) := by omega
      have e2 : ¬ (15 + j = 5 + k) := by omega
      have hk := hseq j hj
      simp only [if_neg e1, if_neg e2, hk]
      have : (j < k + 1 ∧ j ≠ m) ↔ (j < k ∧ j ≠ m) := by omega
      simp only [this]
  · obtain ⟨rb, h1, h2, h3⟩ := hm (by omega)
    have e1 : ¬ (5 + m = 15 + k) := by omega
    have e2 : ¬ (5 + m = 5 + k) := by omega
    refine ⟨rb, h1, by simp only [if_neg e1, if_neg e2, h2], ((h3.of_block (hbi.block _ h3.lt)).setOther (by show rb ≠ w.heap.size; omega) _).setOther (by show rb ≠ w.heap.size; omega) _⟩

theorem item_end {w wr : World} {m : Nat} {xs : List Int} (hm : m < 5) (h : ItemTo w wr m xs 5) : ∃ rb, w.heap.size ≤ rb ∧ ItemIs wr w.heap.size rb m xs 0 ∧ Below w.heap.size w wr := by
  obtain ⟨hb, f, hrow, hseq, hrel⟩ := h
  obtain ⟨rb, h1, h2, h3⟩ := hrel hm
  refine ⟨rb, by omega, ⟨f, hrow, h2, fun j hj => ?_, h3⟩, hb⟩
  rw [hseq j hj]
  by_cases e : j = m
  · simp [e]
  · simp [e, hj]

set_option maxRecDepth 100000 in
set_option maxHeartbeats 4000000 in
theorem item_any (m : Nat) (v u : Value) (xs os : List Int) (w : World) (hm : m < 5) (hv : Reads w v xs) (hu : Reads w u os) (hn : xs.length ≤ 100000) (ho : os.length ≤ 100000) :
    Calls Yba.prog 9 #[.int .u8 m, v, u] w fun e w' => e = .returned (.pointer (some ⟨w.heap.size, 0, none⟩)) ∧ ∃ rb, w.heap.size ≤ rb ∧ ItemIs w' w.heap.size rb m xs 0 ∧ Below w.heap.size w w' := by
  have hmkX := run_make_rel xs.length hn
  have hmkO := run_make_rel os.length ho
  go_enter Yba.func9, Yba.ntmps9
  go_wp2
  go_loopw [8, 9, 10, 11, 12] (fun i _ _ _ _ wr => ∃ k : Nat, k ≤ 5 ∧ i = .int .u8 k ∧ ItemTo w wr m xs k) (fun i _ _ _ _ _ => 5 - (intOf i).toNat)
  case atStart => exact ⟨0, Nat.zero_le _, rfl, item_start w m xs⟩
  case round =>
    obtain ⟨k, hk, rfl, hto⟩ := hrel
    obtain ⟨wo, hwo⟩ : ∃ wo : World, wo = wr := ⟨wr, rfl⟩
    subst hwo
    by_cases hk5 : k < 5
    · by_cases hkm : k = m
      · have HKM : Hid (k = m) := hkm
        have hb1 : ((k : Int) == (m : Int)) = true := by rw [beq_iff_eq]; omega
        have hb2 : ((k : Int) != (m : Int)) = false := by simp [hkm]
        clear hkm

        obtain ⟨a, c, rfl, _, ha⟩ := hv
        have HA : Hid (∀ i, i < xs.length → ∃ b off, a = some ⟨b, off, none⟩ ∧ w.cell? ⟨b, off + i, none⟩ = some (.int .i32 (xs.getD i 0))) := ha
        clear ha
        have HT : Hid (ItemTo w wo m xs k) := hto
        obtain ⟨hbel, f, hrow, _, _⟩ := hto
        have HROW : Hid (wo.rowIs w.heap.size 45 20 f) := hrow
        have hsz := hrow.lt
        clear hrow
        generalize hl : xs.length = n at *
        have HL : Hid (xs.length = n) := hl
        clear hl
        go_wp2
        go_loopw [29, 11, 12] (fun i _ _ wi => ∃ j : Nat, j ≤ n ∧ i = .int .i64 j ∧ wi.rowIs wo.heap.size 57 (n * 2) (relF xs j) ∧ Below wo.heap.size wo wi) (fun i _ _ _ => n - (intOf i).toNat)
        case atStart => exact ⟨0, Nat.zero_le _, rfl, rel_made wo xs n, (Below.refl _ _).alloc (Nat.le_refl _) _⟩
        case round =>
          obtain ⟨j, hj, rfl, hri, hbi⟩ := hrel
          by_cases hjl : j < n
          · obtain ⟨b, off, rfl, c1⟩ := HA.out j hjl
            have HX : ∃ x, xs.getD j 0 = x := ⟨_, rfl⟩
            obtain ⟨x, hx⟩ := HX
            rw [hx] at c1
            have HX : Hid (xs.getD j 0 = x) := hx
            clear hx
            have c2 := (hbel.cell (World.block_lt_of_cell? _ _ c1)).trans c1
            have c3 := (hbi.cell (World.block_lt_of_cell? _ _ c2)).trans c2
            have f1 := hri.frozen (j * 2)
            have f2 := hri.frozen (j * 2 + 1)
            have g1 := hri.cell (i := j * 2) (by omega)
            have g2 := hri.cell (i := j * 2 + 1) (by omega)
            clear c1 c2
            go_wp2
            go_roundw
            case rel =>
              have hr := rel_set hri
              rw [HX.out] at hr
              exact ⟨j + 1, by omega, by go_num, hr, (hbi.setCell (p := ⟨wo.heap.size, j * 2, none⟩) (Nat.le_refl _) _).setCell (p := ⟨wo.heap.size, j * 2 + 1, none⟩) (Nat.le_refl _) _⟩
            case measure => simp [intOf]; omega
          · have hjn : j = n := by omega
            subst hjn
            have hrow2 : wr.rowIs w.heap.size 45 20 f := (HROW.out).of_block (hbi.block _ hsz)
            have f1 := hrow2.frozen (5 + k)
            have f2 := hrow2.frozen (15 + k)
            have g1 := hrow2.cell (i := 5 + k) (by omega)
            have g2 := hrow2.cell (i := 15 + k) (by omega)
            have HRI : Hid (wr.rowIs wo.heap.size 57 (j * 2) (relF xs j)) := hri
            clear hri hrow2
            go_wp2
            go_roundw
            case rel => exact ⟨k + 1, by omega, by go_num, item_step_m HT.out HL.out hk5 HKM.out HRI.out hbi⟩
            case measure => simp [intOf]; omega
      · have HKM : Hid (k ≠ m) := hkm
        have hb1 : ((k : Int) == (m : Int)) = false := by rw [beq_eq_false_iff_ne]; omega
        have hb2 : ((k : Int) != (m : Int)) = true := by rw [bne_iff_ne]; omega
        clear hkm

        obtain ⟨a, c, rfl, _, ha⟩ := hu
        have HA : Hid (∀ i, i < os.length → ∃ b off, a = some ⟨b, off, none⟩ ∧ w.cell? ⟨b, off + i, none⟩ = some (.int .i32 (os.getD i 0))) := ha
        clear ha
        have HT : Hid (ItemTo w wo m xs k) := hto
        obtain ⟨hbel, f, hrow, _, _⟩ := hto
        have HROW : Hid (wo.rowIs w.heap.size 45 20 f) := hrow
        have hsz := hrow.lt
        clear hrow
        generalize hl : os.length = n at *
        have HL : Hid (os.length = n) := hl
        clear hl
        go_wp2
        go_loopw [29, 11, 12] (fun i _ _ wi => ∃ j : Nat, j ≤ n ∧ i = .int .i64 j ∧ wi.rowIs wo.heap.size 57 (n * 2) (relF os j) ∧ Below wo.heap.size wo wi) (fun i _ _ _ => n - (intOf i).toNat)
        case atStart => exact ⟨0, Nat.zero_le _, rfl, rel_made wo os n, (Below.refl _ _).alloc (Nat.le_refl _) _⟩
        case round =>
          obtain ⟨j, hj, rfl, hri, hbi⟩ := hrel
          by_cases hjl : j < n
          · obtain ⟨b, off, rfl, c1⟩ := HA.out j hjl
            have HX : ∃ x, os.getD j 0 = x := ⟨_, rfl⟩
            obtain ⟨x, hx⟩ := HX
            rw [hx] at c1
            have HX : Hid (os.getD j 0 = x) := hx
            clear hx
            have c2 := (hbel.cell (World.block_lt_of_cell? _ _ c1)).trans c1
            have c3 := (hbi.cell (World.block_lt_of_cell? _ _ c2)).trans c2
            have f1 := hri.frozen (j * 2)
            have f2 := hri.frozen (j * 2 + 1)
            have g1 := hri.cell (i := j * 2) (by omega)
            have g2 := hri.cell (i := j * 2 + 1) (by omega)
            clear c1 c2
            go_wp2
            go_roundw
            case rel =>
              have hr := rel_set hri
              rw [HX.out] at hr
              exact ⟨j + 1, by omega, by go_num, hr, (hbi.setCell (p := ⟨wo.heap.size, j * 2, none⟩) (Nat.le_refl _) _).setCell (p := ⟨wo.heap.size, j * 2 + 1, none⟩) (Nat.le_refl _) _⟩
            case measure => simp [intOf]; omega
          · have hjn : j = n := by omega
            subst hjn
            have hrow2 : wr.rowIs w.heap.size 45 20 f := (HROW.out).of_block (hbi.block _ hsz)
            have f1 := hrow2.frozen (5 + k)
            have f2 := hrow2.frozen (15 + k)
            have g1 := hrow2.cell (i := 5 + k) (by omega)
            have g2 := hrow2.cell (i := 15 + k) (by omega)
            have HRI : Hid (wr.rowIs wo.heap.size 57 (j * 2) (relF os j)) := hri
            clear hri hrow2
            go_wp2
            go_roundw
            case rel => exact ⟨k + 1, by omega, by go_num, item_step_o HT.out HL.out hk5 HKM.out HRI.out hbi⟩
            case measure => simp [intOf]; omega
    · have hk' : k = 5 := by omega
      subst hk'
      have HT : Hid (ItemTo w wo m xs 5) := hto
      clear hto
      go_wp2
      go_ret
      exact ⟨rfl, item_end hm HT.out⟩

end Go.Proofs.Ybulkclzo.Seq
