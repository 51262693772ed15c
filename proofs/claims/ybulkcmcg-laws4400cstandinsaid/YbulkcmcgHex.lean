/-
  SEAT b4400a: hexadecimal digits; the contracts of hex.Encode (18) and zzs4400chex (8).
-/
import Derived.Test.YbulkcmcgText
namespace Go.Proofs.Ybulkcmcg.Sec
open Go.ChangeShapes Go.WideShapes Go.ChangeAt Go.RowKit

def digL : List Int := [48, 49, 50, 51, 52, 53, 54, 55, 56, 57, 97, 98, 99, 100, 101, 102]
theorem dig_at : ∀ (n : Nat) (h : n < 16), ((((⟨#[48, 49, 50, 51, 52, 53, 54, 55, 56, 57, 97, 98, 99, 100, 101, 102]⟩ : ByteArray)[n]'h).toNat : Nat) : Int) = digL.getD n 0 := by decide

theorem and15 : ∀ q : Nat, q < 256 → bits .and .u8 (q : Int) 15 = (q : Int) % 16 := by decide +kernel

/-- Digit 'j' of the hexadecimal text of z 0, z 1, .. -/
def hexN (z : Nat → Nat) (j : Nat) : Int := digL.getD (if j % 2 = 0 then z (j / 2) / 16 else z (j / 2) % 16) 0
/-- A row of 32 cells, the digits of the first 'k' bytes laid. -/
def hexF (f : Nat → Value) (z : Nat → Nat) (k j : Nat) : Value := if j < 2 * k then .int .u8 (hexN z j) else f j

theorem grown_set {w wr : World} {b : Nat} (hg : w.grownBy wr (some b)) (o : Nat) (u : Value) : w.grownBy (wr.setCell ⟨b, o, none⟩ u) (some b) :=
  ⟨hg.os, hg.tape, hg.output, by rw [Go.Deep.nblk_setCell]; exact hg.size, fun k hk hne => by
    rw [Below.heap_setCell _ _ _ _ (fun e => hne (by rw [e]))]
    exact hg.block k hk hne⟩

theorem hex_round {w wr : World} {Wb k q : Nat} {f : Nat → Value} {z : Nat → Nat} (hq : z k = q) (hr : wr.rowIs Wb 60 32 (hexF f z k)) (hg : w.grownBy wr (some Wb)) (u v : Value) (hu : u = .int .u8 (digL.getD (q / 16) 0)) (hv : v = .int .u8 (digL.getD (q % 16) 0)) :
    ((wr.setCell ⟨Wb, 2 * k, none⟩ u).setCell ⟨Wb, 2 * k + 1, none⟩ v).rowIs Wb 60 32 (hexF f z (k + 1)) ∧ w.grownBy ((wr.setCell ⟨Wb, 2 * k, none⟩ u).setCell ⟨Wb, 2 * k + 1, none⟩ v) (some Wb) := by
  subst hu hv hq
  refine ⟨((hr.set (2 * k) _).set (2 * k + 1) _).congr fun j _ => ?_, grown_set (grown_set hg _ _) _ _⟩
  by_cases e1 : j = 2 * k + 1
  · subst e1
    have a1 : (2 * k + 1) % 2 = 1 := by omega
    have a2 : (2 * k + 1) / 2 = k := by omega
    have a3 : 2 * k + 1 < 2 * (k + 1) := by omega
    simp [hexF, hexN, a1, a2, a3]
  · by_cases e2 : j = 2 * k
    · subst e2
      have a1 : (2 * k) % 2 = 0 := by omega
      have a2 : (2 * k) / 2 = k := by omega
      have a3 : 2 * k < 2 * (k + 1) := by omega
      simp [hexF, hexN, a1, a2, a3]
    · have a1 : (j < 2 * (k + 1)) ↔ (j < 2 * k) := by omega
      simp only [if_neg e1, if_neg e2, hexF, a1]

set_option maxRecDepth 100000 in
set_option maxHeartbeats 1000000 in
theorem encode_any (Wb S : Nat) (f : Nat → Value) (z : Nat → Nat) (w : World) (hrow : w.rowIs Wb 60 32 f) (hsrc : ∀ i, i < 16 → w.cell? ⟨S, 66 + i, none⟩ = some (.int .u8 (z i : Int))) (hne : Wb ≠ S) (hz : ∀ i, z i ≤ 255) :
    Calls Yba.prog 18 #[.slice (some ⟨Wb, 0, none⟩) 32 32, .slice (some ⟨S, 66, none⟩) 16 32] w fun e w' => e = .returned (.int .i64 32) ∧ w'.rowIs Wb 60 32 (hexF f z 16) ∧ w.grownBy w' (some Wb) := by
  have HS : Hid (∀ i, i < 16 → w.cell? ⟨S, 66 + i, none⟩ = some (.int .u8 (z i : Int))) := hsrc
  clear hsrc
  go_enter Yba.func18, Yba.ntmps18
  go_wp2
  go_loopw [10, 5, 7] (fun i j _ wr => ∃ k : Nat, k ≤ 16 ∧ i = .int .i64 k ∧ j = .int .i64 ((2 * k : Nat) : Int) ∧ wr.rowIs Wb 60 32 (hexF f z k) ∧ w.grownBy wr (some Wb)) (fun i _ _ _ => 16 - (intOf i).toNat)
  case atStart => exact ⟨0, Nat.zero_le _, rfl, rfl, hrow.congr (fun j _ => by simp [hexF]), ⟨rfl, rfl, rfl, Nat.le_refl _, fun _ _ _ => rfl⟩⟩
  case round =>
    obtain ⟨k, hk, rfl, rfl, hr, hg⟩ := hrel
    by_cases hlt : k < 16
    · have c0 := HS.out k hlt
      have c1 : wr.cell? ⟨S, 66 + k, none⟩ = some (.int .u8 (z k : Int)) := by
        rw [World.cell?_of_block (w := w) (hg.block S (World.block_lt_of_cell? _ _ c0) (by simp; omega))]
        exact c0
      have hzk := hz k
      obtain ⟨q, hq⟩ : ∃ q, z k = q := ⟨_, rfl⟩
      have HQ : Hid (z k = q) := hq
      rw [hq] at c1 hzk
      have f1 := hr.frozen (2 * k)
      have f2 := hr.frozen (2 * k + 1)
      have g1 := hr.cell (i := 2 * k) (by omega)
      have g2 := hr.cell (i := 2 * k + 1) (by omega)
      clear c0 hq
      go_wp2
      go_roundw
      case rel =>
        have hq16 : q / 16 < 16 := by omega
        have hm16 : q % 16 < 16 := by omega
        obtain ⟨r1, r2⟩ := hex_round HQ.out hr hg _ _ (congrArg (Value.int .u8) (dig_at (q / 16) hq16)) (congrArg (Value.int .u8) (dig_at (q % 16) hm16))
        exact ⟨k + 1, by omega, by go_num, by go_num, r1, r2⟩
      case measure => simp [intOf]; omega
    · have hk' : k = 16 := by omega
      subst hk'
      go_wp2
      go_ret
      exact ⟨rfl, hr, hg⟩

/-- An array of 32 bytes as a value. -/
def arr (z : Nat → Nat) : Array Value := ((List.range 32).map fun i => Value.int .u8 (z i : Int)).toArray
theorem arr_size (z : Nat → Nat) : (arr z).size = 32 := by simp [arr]
theorem arr_at (z : Nat → Nat) (i : Nat) (hi : i < 32) : (arr z)[i]? = some (.int .u8 (z i : Int)) := by simp [arr, hi]

/-- The digits of the first 'k' bytes. -/
def hexL (z : Nat → Nat) (k : Nat) : List Int := (List.range (2 * k)).map (hexN z)
theorem hexL_succ (z : Nat → Nat) (k : Nat) : hexL z (k + 1) = hexL z k ++ [digL.getD (z k / 16) 0, digL.getD (z k % 16) 0] := by
  have a1 : (2 * k + 1) % 2 = 1 := by omega
  have a2 : (2 * k + 1) / 2 = k := by omega
  have a3 : (2 * k) % 2 = 0 := by omega
  have a4 : (2 * k) / 2 = k := by omega
  unfold hexL
  rw [show 2 * (k + 1) = (2 * k + 1) + 1 from by omega, List.range_succ, List.range_succ]
  simp [hexN, a1, a2, a3, a4]
theorem hexL_length (z : Nat → Nat) (k : Nat) : (hexL z k).length = 2 * k := by simp [hexL]

attribute [local go_sem ↓] Go.wp_at_zero Go.wp_at_succ

set_option maxRecDepth 100000 in
set_option maxHeartbeats 1000000 in
theorem chex_any (z : Nat → Nat) (w : World) (hz : ∀ i, z i ≤ 255) :
    Calls Yba.prog 8 #[.agg (arr z)] w fun e w' => e = .returned (.string (strOfNums (hexL z 16))) ∧ Below w.heap.size w w' := by
  obtain ⟨i0, hi0, hz0, hz1, hz2⟩ := info_parts info5
  have hmk : ∀ w : World, (Instr.makeSlice 22 (.int .i64 0) (.int .i64 32)).run Yba.prog w = .ok (.slice (some ⟨w.heap.size, 0, none⟩) 0 32) (w.alloc (.cells (madeCells #[.int .u8 0] 32) 5)) := fun w => by
    have hr := run_make (P := Yba.prog) w 22 5 i0 _ Yba.underlying22 hi0 hz0 .i64 .i64 0 32 (by omega) (by omega) (by rw [hz2]; omega) (by omega)
    rw [hz1] at hr
    simpa [Value.cells] using hr
  go_enter Yba.func8, Yba.ntmps8
  go_wp2
  go_loopw [4, 3] (fun i v wr => ∃ k : Nat, k ≤ 16 ∧ i = .int .i64 k ∧ wr.rowIs w.heap.size 60 32 (fun i => .int .u8 (z i : Int)) ∧ wr.ownsRow (w.heap.size + 1) 5 1 v (hexL z k).length ((hexL z k).map (Value.int .u8)) ∧ Below w.heap.size w wr) (fun i _ _ => 16 - (intOf i).toNat)
  case atStart =>
    refine ⟨0, Nat.zero_le _, rfl, ?_, ?_, ?_⟩
    · have := (World.rowIs_alloc w (arr z) 60 (fun i => .int .u8 (z i : Int)) (fun i hi => arr_at z i (by rw [arr_size] at hi; exact hi))).alloc (.cells (madeCells #[.int .u8 0] 32) 5)
      rw [arr_size] at this
      exact this
    · refine ⟨rfl, .inr ⟨w.heap.size + 1, 32, madeCells #[.int .u8 0] 32, rfl, Nat.le_refl _, ?_, Nat.zero_le _, by unfold maxLen; omega, size_madeCells _ _, by simp [hexL]⟩⟩
      have := heap_alloc_new (w.alloc (.cells (arr z) 60)) (.cells (madeCells #[.int .u8 0] 32) 5)
      rw [Go.Deep.nblk_alloc] at this
      exact this
    · exact ((Below.refl _ _).alloc (Nat.le_refl _) _).alloc (by rw [Go.Deep.nblk_alloc]; omega) _
  case round =>
    obtain ⟨k, hk, rfl, hr, ho, hbel⟩ := hrel
    have HR : Hid (wr.rowIs w.heap.size 60 32 (fun i => .int .u8 (z i : Int))) := hr
    have HO : Hid (wr.ownsRow (w.heap.size + 1) 5 1 u3 (hexL z k).length ((hexL z k).map (Value.int .u8))) := ho
    have hlt5 := hr.lt
    by_cases hlt : k < 16
    · have c0 : wr.cell? ⟨w.heap.size, k, none⟩ = some (.int .u8 (z k : Int)) := hr.cell (by omega)
      have hzk := hz k
      have HX : Hid (hexL z (k + 1) = hexL z k ++ [digL.getD (z k / 16) 0, digL.getD (z k % 16) 0]) := hexL_succ z k
      have hl := hexL_length z k
      obtain ⟨q, hq⟩ : ∃ q, z k = q := ⟨_, rfl⟩
      rw [hq] at c0 hzk HX
      have hq16 : q / 16 < 16 := by omega
      have hm16 : q % 16 < 16 := by omega
      have hd1 := dig_at (q / 16) hq16
      have hd2 := dig_at (q % 16) hm16
      obtain ⟨d1, e1⟩ : ∃ d1, digL.getD (q / 16) 0 = d1 := ⟨_, rfl⟩
      obtain ⟨d2, e2⟩ : ∃ d2, digL.getD (q % 16) 0 = d2 := ⟨_, rfl⟩
      rw [e1] at hd1 HX
      rw [e2] at hd2 HX
      have HLB : Hid ((hexL z k).length + 2 ≤ 100) := by rw [hl]; show 2 * k + 2 ≤ 100; omega
      have i1 : (0 : Int) ≤ (k : Int) := by omega
      have i2 : (k : Int) < 32 := by omega
      have hlo : w.heap.size + 1 ≤ wr.heap.size + 1 := by omega
      have hne : wr.heap.size ≠ w.heap.size := by omega
      have hand := and15 q (by omega)
      have b1 : (0 : Int) ≤ (q : Int) / 16 := by omega
      have b2 : (q : Int) / 16 < 16 := by omega
      have b3 : (0 : Int) ≤ (q : Int) % 16 := by omega
      have b4 : (q : Int) % 16 < 16 := by omega
      have b5 : ((q : Int) / 16).toNat = q / 16 := by omega
      have b6 : ((q : Int) % 16).toNat = q % 16 := by omega
      clear hr ho e1 e2 hq hl
      go_wp2
      go_region_law ((refine step_append_lies _ (by rfl) _ _ _ (by rfl) (w.heap.size + 1) 5 i0 _ 1 1 Yba.underlying22 hi0 hz0 hz1 hz2 rfl (by omega) u3 (hexL z k).length _ (by rfl) ((HO.out.alloc _).drew) ⟨wr.heap.size, 0, none⟩ 2 2 [.int .u8 d1, .int .u8 d2] (by rfl) (by rfl) (World.news_of_block (cs := #[.int .u8 d1, .int .u8 d2]) (t := 5) (fr := (0, 0)) (heap_alloc_new wr _)) (by simp [Value.oneCell']) (by omega) (by have h := HLB.out; unfold maxLen; omega) (by have h := HLB.out; omega) (by simp; omega) (wr.heap.size + 1) (by simp) ?_; intro gg cap w2 hown1 hgrow hat hlt2))
      all_goals
        have HO2 : Hid (w2.ownsRow (w.heap.size + 1) 5 1 (.slice (some ⟨gg, 0, none⟩) ((hexL z k).length + 2) cap) (hexL z (k + 1)).length ((hexL z (k + 1)).map (Value.int .u8))) := by
          rw [HX.out, List.length_append, List.map_append]
          exact hown1
        have HR2 : Hid (w2.rowIs w.heap.size 60 32 (fun i => .int .u8 (z i : Int))) := (HR.out.alloc _).of_block (hgrow.block w.heap.size (by show w.heap.size < (wr.alloc _).heap.size; rw [Go.Deep.nblk_alloc]; omega) (fun e => by have := (own_le HO.out e.symm).1; omega))
        have hb2 : Below w.heap.size w w2 := ((hbel.alloc hbel.size _).drew).grown hgrow (by show w.heap.size ≤ (wr.alloc _).heap.size; rw [Go.Deep.nblk_alloc]; omega) (fun k hk => by have := (own_le HO.out hk).1; omega)
        clear hown1 hgrow hat HR HO
        go_wp2
        go_roundw
        case rel => exact ⟨k + 1, by omega, by go_num, HR2.out, HO2.out, hb2⟩
        case measure => simp [intOf]; omega
    · have hk' : k = 16 := by omega
      subst hk'
      have hl : (hexL z 16).length = 32 := hexL_length z 16
      rw [hl] at ho
      obtain ⟨g, cap, hform, _, _⟩ := ho.form (by omega)
      subst hform
      have hcv : (convert 22 9 (.slice (some ⟨g, 0, none⟩) 32 cap)).run Yba.prog wr = .ok (.string (strOfNums (hexL z 16))) wr :=
        run_convert_bytes_arg wr 22 5 Yba.underlying22 Yba.underlying5 g 0 32 cap (hexL z 16) hl (fun i hi => by
          rw [Nat.zero_add, ho.cellAt i (by omega)]
          simp [List.getElem?_eq_getElem (show i < (hexL z 16).length by omega)]) 9 Yba.underlying9
      clear ho HO hr
      go_wp2
      go_ret
      exact ⟨rfl, hbel⟩

end Go.Proofs.Ybulkcmcg.Sec
