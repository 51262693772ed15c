/-
  THE PROOF OF 'Rows.LawS4395ABuiltSaid' (the guide's frame, the walk filled).
-/
import Derived.Test.YbulkclzoRows
import Derived.WalkKit
import Derived.ProofKit
import Derived.OpenShut
import Derived.ShutString
import Derived.ChangeOld
import Derived.Below
import Derived.Deep.OwnRows
import Derived.Laws.BytesArg
import Derived.Test.YbulkclzoItem
namespace Go.Proofs.Ybulkclzo.lawS4395ABuilt
open Go.ChangeShapes Go.WideShapes Go.ChangeAt Go.RowKit
open Go.ChangeMaps (open_string shut_string)
open Go.Proofs.Ybulkclzo.Item
set_option linter.unusedVariables false

theorem own : ownKnob Yba.prog.godebug = none := by kernel_rfl
theorem laidOut : laidOutB Yba.prog = true := by kernel_rfl

/-- WHAT THE WALK IS TOLD OF A SLICE OF INTEGERS THAT CAME IN: it is nil; or it leads to a row of 'cap' cells, the numbers 'zs' (the first 'len' are its elements, the rest its spare room), each fitting its kind. -/
def IsRow (k : IntKind) (w : World) (a : Option Addr) (len cap : Nat) (zs : List Int) : Prop :=
  (a = none ∧ len = 0 ∧ cap = 0 ∧ zs = []) ∨
  ∃ x, a = some x ∧ len ≤ cap ∧ cap ≤ maxLen ∧ zs.length = cap ∧ (∀ i, i < zs.length → w.cell? (x.add i) = some (.int k (zs.getD i 0))) ∧ ∀ n ∈ zs, (Lit.int k n).wf = true

def tabL : List Int := [97, 90, 122, 48, 57, 95, 46, 45, 109, 62, 40, 32, 41, 35, 195, 128]
def rowB (z : List Int) (k : Nat) (j : Nat) : Value := if j < k then .int .u8 (tabL.getD ((z.getD j 0).toNat % 16) 0) else .int .u8 0
def rowI (z : List Int) (k : Nat) (j : Nat) : Value := if j < k then .bool (decide ((z.getD j 0).toNat % 16 < 9)) else .bool false

def xAt (z : List Int) (j : Nat) : Nat := (z.getD j 0).toNat % 16

theorem tab_at : ∀ (x : Nat) (h : x < 16), ((((⟨#[97, 90, 122, 48, 57, 95, 46, 45, 109, 62, 40, 32, 41, 35, 195, 128]⟩ : ByteArray)[x]'h).toNat : Nat) : Int) = tabL.getD x 0 := by decide
theorem it_tab : ∀ x : Nat, x < 16 → itB (tabL.getD x 0) = decide (x < 9) := by decide
theorem tab_byte : ∀ x : Nat, x < 16 → ((UInt8.ofNat (tabL.getD x 0).toNat).toNat : Int) = tabL.getD x 0 := by decide
theorem xAt_lt (z : List Int) (j : Nat) : xAt z j < 16 := Nat.mod_lt _ (by decide)

theorem skips_eq {s : ByteArray} {i r j : Nat} (h : Skips s i r) (hi : i ≤ j) (hj : j ≤ s.size) (h1 : ∀ k (hk : k < s.size), i ≤ k → k < j → itB (s[k].toNat : Int) = true) (h2 : ∀ (hj : j < s.size), itB (s[j].toNat : Int) = false) : r = j := by
  obtain ⟨a, b, c, d, e⟩ := h
  rcases Nat.lt_trichotomy r j with hlt | heq | hgt
  · have x := e (by omega)
    have y := h1 r (by omega) a hlt
    rw [x] at y; cases y
  · exact heq
  · have hj' : j < s.size := by omega
    have x := h2 hj'
    have y := d j hj' hi hgt
    rw [x] at y; cases y

theorem round_rel {w wr : World} {z : List Int} {n k q : Nat} (hq : z.getD k 0 = (q : Int)) (hB : wr.rowIs w.heap.size 5 n (rowB z k)) (hI : wr.rowIs (w.heap.size + 1) 4 n (rowI z k)) (hbel : Below w.heap.size w wr) (u v : Value)
    (hu : u = .int .u8 (tabL.getD (q % 16) 0)) (hv : v = .bool (decide (q % 16 < 9))) :
    ((wr.setCell ⟨w.heap.size, k, none⟩ u).setCell ⟨w.heap.size + 1, k, none⟩ v).rowIs w.heap.size 5 n (rowB z (k + 1)) ∧
    ((wr.setCell ⟨w.heap.size, k, none⟩ u).setCell ⟨w.heap.size + 1, k, none⟩ v).rowIs (w.heap.size + 1) 4 n (rowI z (k + 1)) ∧
    Below w.heap.size w ((wr.setCell ⟨w.heap.size, k, none⟩ u).setCell ⟨w.heap.size + 1, k, none⟩ v) := by
  subst hu hv
  have hq' : (z.getD k 0).toNat = q := by rw [hq]; rfl
  refine ⟨((hB.set k _).setOther (by show w.heap.size ≠ w.heap.size + 1; omega) _).congr ?_, ((hI.setOther (by show w.heap.size + 1 ≠ w.heap.size; omega) _).set k _).congr ?_, (hbel.setCell (Nat.le_refl _) _).setCell (Nat.le_succ _) _⟩
  · intro j hj
    by_cases e : j = k
    · subst e; simp only [rowB, hq', if_pos (Nat.lt_succ_self j), if_true]
    · have e2 : (j < k + 1) ↔ j < k := by omega
      simp [rowB, e, e2]
  · intro j hj
    by_cases e : j = k
    · subst e; simp only [rowI, hq', if_pos (Nat.lt_succ_self j), if_true]
    · have e2 : (j < k + 1) ↔ j < k := by omega
      simp [rowI, e, e2]

theorem str_of {w wr : World} {z : List Int} {n : Nat} (hB : wr.rowIs w.heap.size 5 n (rowB z n)) :
    ∃ s : ByteArray, s.size = n ∧ (convert 26 9 (.slice (some ⟨w.heap.size, 0, none⟩) n n)).run Yba.prog wr = .ok (.string s) wr ∧ ∀ j (hj : j < s.size), itB (s[j].toNat : Int) = decide (xAt z j < 9) := by
  refine ⟨strOfNums ((List.range n).map fun j => tabL.getD (xAt z j) 0), by simp [strOfNums_size], run_convert_bytes_arg wr 26 5 Yba.underlying26 Yba.underlying5 w.heap.size 0 n n _ (by simp) ?_ 9 Yba.underlying9, ?_⟩
  · intro i hi
    rw [Nat.zero_add, hB.cell hi]
    simp [rowB, xAt, hi]
  · intro j hj
    have hj' : j < n := by simpa [strOfNums_size] using hj
    rw [← it_tab _ (xAt_lt z j), ← tab_byte _ (xAt_lt z j)]
    congr 1
    simp [strOfNums, ByteArray.getElem_eq_getElem_data]

/-! ### STEP 1: THE WALK: the Go text returns true, AND WRITES NOTHING THAT WAS THERE: 'Below w.heap.size w w'' (Derived/Below.lean: '.refl', '.alloc', '.drew', '.setCell' at a new block, '.trans'). Open each 'IsRow' by 'rcases' AHEAD of 'go_enter'; part every test ahead of the walk. -/
set_option maxHeartbeats 1000000 in
theorem walk (a0 : Option Addr) (len0 cap0 : Nat) (z0 : List Int) (a1 : Int) (w : World) (w0 : IsRow .u8 w a0 len0 cap0 z0) (w1 : (Lit.int .u8 a1).wf = true) :
    Calls Yba.prog 4 #[.slice a0 len0 cap0, .int .u8 a1] w fun e w' => e = .returned (.bool true) ∧ Below w.heap.size w w' := by
  have hb1 := bounds_u8 w1
  by_cases hbig : 4096 < len0
  · go_enter Yba.func4, Yba.ntmps4
    go_wp2
    go_ret
    exact ⟨rfl, Below.refl _ _⟩
  · obtain ⟨st, rfl⟩ := Int.eq_ofNat_of_zero_le hb1.1
    have hn : len0 ≤ 4096 := by omega
    have hmk0 := run_make_row' (P := Yba.prog) 26 5 (.int .u8 0) 1 Yba.underlying26 (by kernel_rfl) rfl .i64 .i64 len0 (by omega) (by omega)
    have hmk1 := run_make_row' (P := Yba.prog) 27 4 (.bool false) 1 Yba.underlying27 (by kernel_rfl) rfl .i64 .i64 len0 (by omega) (by omega)
    go_enter Yba.func4, Yba.ntmps4
    go_wp2
    go_loopw [7, 8] (fun i _ wr => ∃ k : Nat, k ≤ len0 ∧ i = .int .i64 k ∧ wr.rowIs w.heap.size 5 len0 (rowB z0 k) ∧ wr.rowIs (w.heap.size + 1) 4 len0 (rowI z0 k) ∧ Below w.heap.size w wr) (fun i _ _ => len0 - (intOf i).toNat)
    case atStart =>
      refine ⟨0, Nat.zero_le _, rfl, ?_, ?_, ?_⟩
      · exact ((World.rowIs_made w (.int .u8 0) len0 5).alloc _).congr (fun i _ => rfl)
      · have := World.rowIs_made (w.alloc (.cells (madeCells #[.int .u8 0] len0) 5)) (.bool false) len0 4
        simp only [Go.Deep.nblk_alloc] at this
        exact this.congr (fun i _ => rfl)
      · exact ((Below.refl _ _).alloc (Nat.le_refl _) _).alloc (by simp) _
    case round =>
      obtain ⟨k, hk, rfl, hB, hI, hbel⟩ := hrel
      by_cases hlt : k < len0
      · rcases w0 with ⟨rfl, rfl, rfl, rfl⟩ | ⟨x, rfl, hl, hm, hz, hcell, hwz⟩
        · exact absurd hlt (by omega)
        · obtain ⟨b, off, rfl, hc⟩ := ints_at hcell (by omega)
          have hcw := hc k (by omega)
          have hcx := (hbel.cell (World.block_lt_of_cell? _ _ hcw)).trans hcw
          have hpb : 0 ≤ z0.getD k 0 ∧ z0.getD k 0 ≤ 255 := by
            have := range_u8 hwz k
            simpa using this
          clear hcw hc hcell hwz
          generalize hp : z0.getD k 0 = p at hcx hpb
          have HP : Hid (z0.getD k 0 = p) := hp
          clear hp
          obtain ⟨q, rfl⟩ := Int.eq_ofNat_of_zero_le hpb.1
          have f0 := hB.frozen k
          have f1 := hI.frozen k
          have c0 := hB.cell hlt
          have c1 := hI.cell hlt
          go_wp2
          go_roundw
          case rel =>
            have R := round_rel HP.out hB hI hbel
            obtain ⟨r1, r2, r3⟩ := R _ (.bool (decide ((q : Int) % 16 < 9))) (congrArg (Value.int .u8) (tab_at (q % 16) (Nat.mod_lt _ (by decide)))) (congrArg Value.bool (decide_eq_decide.2 (by omega)))
            exact ⟨k + 1, by omega, by go_num, r1, r2, r3⟩
          case measure => simp [intOf]; omega
      · have hk' : k = len0 := by omega
        subst hk'
        obtain ⟨s, hsz, hcv, hit⟩ := str_of hB
        have HIT : Hid (∀ j (hj : j < s.size), itB (s[j].toNat : Int) = decide (xAt z0 j < 9)) := hit
        obtain ⟨i, hi, he⟩ : ∃ i : Nat, i ≤ k ∧ ((st : Int) % ((k : Int) + 1)) = (i : Int) :=
          ⟨st % (k + 1), by have := Nat.mod_lt st (show 0 < k + 1 by omega); omega, by simp⟩
        clear hit w0 w1
        go_wp2
        simp only [he]
        clear he
        go_loop [11] (fun t => ∃ j : Nat, t = .int .i64 j ∧ i ≤ j ∧ j ≤ k ∧ ∀ m, i ≤ m → m < j → xAt z0 m < 9) (fun t => k - (intOf t).toNat)
        case atStart => exact ⟨i, rfl, Nat.le_refl _, hi, fun m a b => absurd a (by omega)⟩
        case round =>
          obtain ⟨j, rfl, j1, j2, j3⟩ := hrel
          have J3 : Hid (∀ m, i ≤ m → m < j → xAt z0 m < 9) := j3
          clear j3
          have key : ∀ r, Skips s i r → (∀ hj : j < k, xAt z0 j < 9 → False) → r = j := by
            intro r hr h9
            refine skips_eq hr j1 (by omega) (fun m hm a b => ?_) (fun hj => ?_)
            · rw [HIT.out m hm]; exact decide_eq_true (J3.out m a b)
            · rw [HIT.out j hj]; exact decide_eq_false (fun h => h9 (by omega) h)
          have KEY : Hid (∀ r, Skips s i r → (∀ hj : j < k, xAt z0 j < 9 → False) → r = j) := key
          clear key
          by_cases hj : j < k
          · have cI := hI.cell hj
            by_cases hx : xAt z0 j < 9
            · have cI' : wr.cell? ⟨w.heap.size + 1, j, none⟩ = some (.bool true) := by rw [cI]; simp only [rowI, if_pos hj]; rw [decide_eq_true (show (z0.getD j 0).toNat % 16 < 9 from hx)]
              clear cI
              go_wp2_with fail
              go_round
              case rel =>
                refine ⟨j + 1, by go_num, by omega, by omega, fun m a b => ?_⟩
                by_cases e : m = j
                · subst e; exact hx
                · exact J3.out m a (by omega)
              case measure => simp [intOf]; omega
            · have cI' : wr.cell? ⟨w.heap.size + 1, j, none⟩ = some (.bool false) := by rw [cI]; simp only [rowI, if_pos hj]; rw [decide_eq_false (show ¬ (z0.getD j 0).toNat % 16 < 9 from hx)]
              clear cI
              go_wp2_with fail
              refine (skip_any _ _ _ (by omega) (by omega)).mono ?_
              rintro e w' ⟨rfl, r, rfl, hr⟩
              have er := KEY.out r hr (fun _ => hx)
              subst er
              clear hr
              go_wp2_with fail
              go_ret
              exact ⟨by simp, hbel⟩
          · go_wp2_with fail
            refine (skip_any _ _ _ (by omega) (by omega)).mono ?_
            rintro e w' ⟨rfl, r, rfl, hr⟩
            have er := KEY.out r hr (fun h => absurd h hj)
            subst er
            clear hr
            go_wp2_with fail
            go_ret
            exact ⟨by simp, hbel⟩

/-! ### THE ROW's STEP: WRITTEN OUT: LEAVE IT -/
set_option maxRecDepth 100000 in
theorem lifted (os : Os) (started : os.Started) (H : Type) (enc : TypeId × Value → H) :
    ReturnsInHanded {} Yba.checked os 4 .any (Rows.lawS4395ABuiltSpec.pre6 enc Yba.prog Yba.f4 Rows.lawS4395ABuiltRow.domain false) (Rows.lawS4395ABuiltSpec.post enc Yba.prog Yba.f4 false true false false) := by
  refine returnsInHanded_of_change (C := Yba.checked) own started (by kernel_rfl) Yba.func4
    (ChangeSpec.witness6 (enc := enc) (C := Yba.checked) false ⟨#[], #[.slice none 0 0, .int .u8 0], []⟩ 8 (by kernel_rfl) (by kernel_rfl) (by kernel_rfl) (by kernel_rfl)) ?_
  intro W base args ds gs before hval0 hW hcnd _
  have hval : ∀ (j : Nat) t v, Yba.f4.params[j]? = some t → args[j]? = some v → Value.okWide Yba.prog W .any base t v := hval0
  have hW' := hW
  obtain ⟨p, q, hA0, hV, rfl, hfz, hnd⟩ := hW
  have hA : DataW.TrodAll enc Yba.prog W 0 (fun _ => true) true Yba.f4.params.toList args.toList ds p := hA0
  rw [Yba.params4] at hA hval
  obtain ⟨v0, vs0, d0, ds0, p0, q0, hargs, rfl, rfl, h0, r0⟩ := trodAll_cons hA
  obtain ⟨v1, vs1, d1, ds1, p1, q1, rfl, rfl, rfl, h1, r1⟩ := trodAll_cons r0
  obtain ⟨rfl, rfl, rfl⟩ := trodAll_nil r1
  obtain rfl : args = #[v0, v1] := by cases args; simp_all
  obtain ⟨rfl, rfl⟩ := trodVars_none hV
  obtain ⟨a0, len0, cap0, rfl⟩ := okWide_slice Yba.underlying26 (hval 0 26 v0 rfl rfl)
  have k0 := h0
  have lt0 : ∀ x ∈ p0, x.block < W.heap.size := by obtain ⟨m, hm⟩ := k0; exact DataW.trod_lt m _ _ _ hm
  obtain ⟨z0, w0⟩ : ∃ zs, IsRow .u8 W a0 len0 cap0 zs := by
    obtain ⟨fuel, hf⟩ := h0
    rcases open_ints Yba.underlying26 Yba.underlying5 (by kernel_rfl) hf with ⟨hcs, _⟩ | ⟨x, l, c, zs, hcs, _, hl, hm, hz, _, hcell, hwz⟩
    · simp [Value.cells] at hcs
      obtain ⟨rfl, rfl, rfl⟩ := hcs
      exact ⟨[], .inl ⟨rfl, rfl, rfl, rfl⟩⟩
    · simp [Value.cells] at hcs
      obtain ⟨rfl, rfl, rfl⟩ := hcs
      exact ⟨zs, .inr ⟨_, rfl, hl, hm, by simpa using hz, hcell, hwz⟩⟩
  obtain ⟨a1, rfl, rfl, rfl, w1⟩ := open_int Yba.underlying5 (hval 1 5 v1 rfl rfl) h1
  clear hA0 hval0
  refine (walk a0 len0 cap0 z0 a1 W w0 w1).mono fun e W' ⟨he, bel⟩ => ?_
  subst he
  exact ⟨_, rfl, _, _, _, [], _, [], hW', trodAll_mk1 (shut_bool Yba.underlying4 _), (trodAll_cons_mk (Below.trod laidOut (by kernel_rfl) (of_decide_eq_true (by kernel_rfl)) k0 bel lt0) (trodAll_cons_mk (shut_int Yba.underlying5 w1) trodAll_mk0)), rfl, bel.frame _, fun h => by cases h⟩

theorem over : Rows.lawS4395ABuiltRow.holds Yba.pinned (OpenSpec.ofChange Rows.lawS4395ABuiltSpec) :=
  OpenClaim.holds_of_wide 4 Yba.f4 rfl rfl rfl rfl rfl rfl rfl ⟨rfl, rfl, rfl, rfl, rfl⟩ rfl rfl rfl rfl rfl (by kernel_rfl) Yba.func4 (by kernel_rfl)
    (of_decide_eq_true (by kernel_rfl)) (by unfold Func.isWrapper; first | (rw [if_pos (by decide +kernel)]; kernel_rfl) | (rw [if_neg (by decide +kernel)]; exact ⟨rfl, rfl⟩))
    (fun os started H enc _ => lifted os started H enc)

/-- ████ THE STATEMENT ████ -/
theorem proved : Rows.LawS4395ABuiltSaid := over
end Go.Proofs.Ybulkclzo.lawS4395ABuilt
