/-
  SEAT b4395a: slices of int32 as they are read; the contracts of slices.Equal (14).
-/
import Derived.Test.YbulkclzoRows
import Derived.WalkKit
import Derived.ProofKit
import Derived.OpenShut
import Derived.Below
import Derived.WalkSmall
import Derived.Deep.OwnRows
import Derived.Deep.QuietTactic
import Derived.BigQuiet
namespace Go.Proofs.Ybulkclzo.Seq
open Go.ChangeShapes Go.WideShapes Go.ChangeAt Go.RowKit

/-- The slice value 'v' reads as the numbers 'xs' in the world 'w'. -/
def Reads (w : World) (v : Value) (xs : List Int) : Prop :=
  ∃ a cap, v = .slice a xs.length cap ∧ (a = none → xs = [] ∧ cap = 0) ∧ ∀ i, i < xs.length → ∃ b off, a = some ⟨b, off, none⟩ ∧ w.cell? ⟨b, off + i, none⟩ = some (.int .i32 (xs.getD i 0))

theorem Reads.under {w w' : World} {v : Value} {xs : List Int} (h : Reads w v xs) {B : Nat} (hb : Below B w w') (hB : w.heap.size ≤ B) : Reads w' v xs := by
  obtain ⟨a, cap, e, hz, h⟩ := h
  refine ⟨a, cap, e, hz, fun i hi => ?_⟩
  obtain ⟨b, off, e2, hc⟩ := h i hi
  exact ⟨b, off, e2, (hb.cell (Nat.lt_of_lt_of_le (World.block_lt_of_cell? _ _ hc) hB)).trans hc⟩

theorem add_plain' (b off i : Nat) : (⟨b, off, none⟩ : Addr).add i = ⟨b, off + i, none⟩ := by unfold Addr.add; split <;> simp_all

/-- As the source of an append: nil, or an address from which on the cells lie. -/
theorem Reads.src {w : World} {v : Value} {xs : List Int} (h : Reads w v xs) :
    (v = .slice none 0 0 ∧ xs = []) ∨ ∃ ad cap, v = .slice (some ad) xs.length cap ∧ ∀ j u, (xs.map (Value.int .i32))[j]? = some u → w.cell? (ad.add j) = some u := by
  obtain ⟨a, cap, rfl, hz, h⟩ := h
  cases a with
  | none =>
    obtain ⟨rfl, rfl⟩ := hz rfl
    exact .inl ⟨rfl, rfl⟩
  | some ad =>
    refine .inr ⟨ad, cap, rfl, fun j u hj => ?_⟩
    have hlt : j < xs.length := by
      rcases Nat.lt_or_ge j xs.length with h' | h'
      · exact h'
      · rw [List.getElem?_eq_none (by simpa using h')] at hj; cases hj
    obtain ⟨b, off, e, hc⟩ := h j hlt
    cases e
    rw [add_plain', hc]
    simp [List.getElem?_eq_getElem hlt] at hj
    simp [List.getElem?_eq_getElem hlt, hj]

theorem Reads.own {w : World} {base : Nat} {v : Value} {xs : List Int} (h : w.ownsRow base 21 1 v xs.length (xs.map (Value.int .i32))) : Reads w v xs := by
  rcases h.2 with ⟨rfl, h0⟩ | ⟨g, cap, cur, rfl, _, hg, hnc, _, hcs, htake⟩
  · have : xs = [] := List.eq_nil_of_length_eq_zero h0
    subst this
    exact ⟨none, 0, rfl, fun _ => ⟨rfl, rfl⟩, fun i hi => absurd hi (by simp)⟩
  · refine ⟨_, cap, rfl, fun e => (by cases e), fun i hi => ⟨g, 0, rfl, ?_⟩⟩
    rw [Nat.zero_add, h.cellAt i (by omega)]
    simp [List.getElem?_eq_getElem hi]

theorem Reads.row {w : World} {b n : Nat} {xs : List Int} {f : Nat → Value} {cap : Nat} (h : w.rowIs b 21 n f) (hn : xs.length = n) (hf : ∀ i, i < n → f i = .int .i32 (xs.getD i 0)) : Reads w (.slice (some ⟨b, 0, none⟩) n cap) xs := by
  subst hn
  exact ⟨_, cap, rfl, fun e => (by cases e), fun i hi => ⟨b, 0, rfl, by rw [Nat.zero_add, h.cell hi, hf i hi]⟩⟩

set_option maxHeartbeats 1000000 in
theorem equal_same (v u : Value) (xs : List Int) (w : World) (hv : Reads w v xs) (hu : Reads w u xs) (hn : xs.length ≤ 100000) :
    Calls Yba.prog 14 #[v, u] w fun e w' => e = .returned (.bool true) ∧ ∃ n, w' = w.drewN n := by
  obtain ⟨a, c, rfl, _, ha⟩ := hv
  obtain ⟨a', c', rfl, _, ha'⟩ := hu
  have HA : Hid (∀ i, i < xs.length → ∃ b off, a = some ⟨b, off, none⟩ ∧ w.cell? ⟨b, off + i, none⟩ = some (.int .i32 (xs.getD i 0))) := ha
  have HB : Hid (∀ i, i < xs.length → ∃ b off, a' = some ⟨b, off, none⟩ ∧ w.cell? ⟨b, off + i, none⟩ = some (.int .i32 (xs.getD i 0))) := ha'
  clear ha ha'
  generalize hl : xs.length = n at *
  have HL : Hid (xs.length = n) := hl
  clear hl
  go_enter Yba.func14, Yba.ntmps14
  go_wp2
  go_loopw [13, 5] (fun i _ wr => ∃ k : Nat, k ≤ n ∧ i = .int .i64 k ∧ ∃ q, wr = w.drewN q) (fun i _ _ => n - (intOf i).toNat)
  case atStart => exact ⟨0, Nat.zero_le _, rfl, 0, rfl⟩
  case round =>
    obtain ⟨k, hk, rfl, q, rfl⟩ := hrel
    by_cases hlt : k < n
    · obtain ⟨b, off, rfl, c1⟩ := HA.out k hlt
      obtain ⟨b', off', rfl, c2⟩ := HB.out k hlt
      generalize xs.getD k 0 = x at c1 c2
      go_wp2
      go_quiet (fail)
      go_wp2
      go_roundw
      case rel => exact ⟨k + 1, by omega, by go_num, _, by first | rfl | exact (World.drewN_add _ _ _)⟩
      case measure => simp [intOf]; omega
    · go_wp2
      go_ret
      exact ⟨rfl, q, rfl⟩

set_option maxHeartbeats 1000000 in
theorem others_true (bi m : Nat) (w : World) (hm : m < 5) (hc : ∀ k, k < 5 → k ≠ m → w.cell? ⟨bi, 15 + k, none⟩ = some (.int .i32 ((k : Int) + 7))) :
    Calls Yba.prog 12 #[.pointer (some ⟨bi, 0, none⟩), .int .u8 m] w fun e w' => e = .returned (.bool true) ∧ w' = w := by
  have HC : Hid (∀ k, k < 5 → k ≠ m → w.cell? ⟨bi, 15 + k, none⟩ = some (.int .i32 ((k : Int) + 7))) := hc
  clear hc
  go_enter Yba.func12, Yba.ntmps12
  go_wp2
  go_loop [5] (fun i => ∃ k : Nat, k ≤ 5 ∧ i = .int .u8 k) (fun i => 5 - (intOf i).toNat)
  case atStart => exact ⟨0, Nat.zero_le _, rfl⟩
  case round =>
    obtain ⟨k, hk, rfl⟩ := hrel
    by_cases hlt : k < 5
    · by_cases he : k = m
      · have hb : ((k : Int) != (m : Int)) = false := by simp [he]
        go_wp2
        go_round
        case rel => exact ⟨k + 1, by omega, by go_num⟩
        case measure => simp [intOf]; omega
      · have hc := HC.out k hlt he
        have hb : ((k : Int) != (m : Int)) = true := by rw [bne_iff_ne]; omega
        go_wp2
        go_round
        case rel => exact ⟨k + 1, by omega, by go_num⟩
        case measure => simp [intOf]; omega
    · go_wp2
      go_ret
      exact ⟨rfl, rfl⟩

set_option maxHeartbeats 1000000 in
theorem okrel_true (bi rb m : Nat) (v : Value) (xs : List Int) (w : World) (hm : m < 5) (hn : xs.length ≤ 100000) (hv : Reads w v xs)
    (hs : w.cell? ⟨bi, 5 + m, none⟩ = some (.slice (some ⟨rb, 0, none⟩) xs.length xs.length))
    (hc : ∀ k, k < xs.length → w.cell? ⟨rb, k * 2, none⟩ = some (.int .i32 (xs.getD k 0)) ∧ w.cell? ⟨rb, k * 2 + 1, none⟩ = some (.int .i64 k)) :
    Calls Yba.prog 13 #[.pointer (some ⟨bi, 0, none⟩), .int .u8 m, v] w fun e w' => e = .returned (.bool true) ∧ Below w.heap.size w w' := by
  have HC : Hid (∀ k, k < xs.length → w.cell? ⟨rb, k * 2, none⟩ = some (.int .i32 (xs.getD k 0)) ∧ w.cell? ⟨rb, k * 2 + 1, none⟩ = some (.int .i64 k)) := hc
  obtain ⟨a, c, rfl, _, ha⟩ := hv
  have HA : Hid (∀ i, i < xs.length → ∃ b off, a = some ⟨b, off, none⟩ ∧ w.cell? ⟨b, off + i, none⟩ = some (.int .i32 (xs.getD i 0))) := ha
  clear hc ha
  generalize hl : xs.length = n at *
  have HL : Hid (xs.length = n) := hl
  clear hl
  go_enter Yba.func13, Yba.ntmps13
  go_wp2
  go_loopw [26, 7, 8] (fun i _ _ wr => ∃ k : Nat, k ≤ n ∧ i = .int .i64 k ∧ Below w.heap.size w wr) (fun i _ _ _ => n - (intOf i).toNat)
  case atStart => exact ⟨0, Nat.zero_le _, rfl, Below.refl _ _⟩
  case round =>
    obtain ⟨k, hk, rfl, hbel⟩ := hrel
    by_cases hlt : k < n
    · obtain ⟨b, off, rfl, c1⟩ := HA.out k hlt
      obtain ⟨c2, c3⟩ := HC.out k hlt
      generalize xs.getD k 0 = x at c1 c2
      have d1 := (hbel.cell (World.block_lt_of_cell? _ _ c1)).trans c1
      have d2 := (hbel.cell (World.block_lt_of_cell? _ _ c2)).trans c2
      have d3 := (hbel.cell (World.block_lt_of_cell? _ _ c3)).trans c3
      have n1 := World.block_lt_of_cell? _ _ d1
      have n2 := World.block_lt_of_cell? _ _ d2
      have hx : (x != x) = false := by simp
      have hkk : ((k : Int) != (k : Int)) = false := by simp
      clear c1 c2 c3
      go_wp2
      go_quiet (fail)
      go_wp2
      go_roundw
      case rel => exact ⟨k + 1, by omega, by go_num, below_drewN (hbel.alloc hbel.size _) _⟩
      case measure => simp [intOf]; omega
    · go_wp2
      go_ret
      exact ⟨rfl, hbel⟩

/-- What releaseTxns fills in: the first 'k' numbers, then zeros. -/
def seqF (xs : List Int) (k : Nat) (j : Nat) : Value := .int .i32 (if j < k then xs.getD j 0 else 0)

set_option maxHeartbeats 1000000 in
theorem release_any (bi rb m : Nat) (xs : List Int) (w : World) (hm : m < 5) (hn : xs.length ≤ 100000)
    (hs : w.cell? ⟨bi, 5 + m, none⟩ = some (.slice (some ⟨rb, 0, none⟩) xs.length xs.length))
    (hc : ∀ k, k < xs.length → w.cell? ⟨rb, k * 2, none⟩ = some (.int .i32 (xs.getD k 0)) ∧ w.cell? ⟨rb, k * 2 + 1, none⟩ = some (.int .i64 k)) :
    Calls Yba.prog 18 #[.pointer (some ⟨bi, 0, none⟩), .int .u8 m] w fun e w' => e = .returned (.slice (some ⟨w.heap.size, 0, none⟩) xs.length xs.length) ∧ w'.rowIs w.heap.size 21 xs.length (seqF xs xs.length) ∧ Below w.heap.size w w' := by
  have HC : Hid (∀ k, k < xs.length → w.cell? ⟨rb, k * 2, none⟩ = some (.int .i32 (xs.getD k 0)) ∧ w.cell? ⟨rb, k * 2 + 1, none⟩ = some (.int .i64 k)) := hc
  clear hc
  generalize hl : xs.length = n at *
  have HL : Hid (xs.length = n) := hl
  clear hl
  have hmk := run_make_row' (P := Yba.prog) 30 21 (.int .i32 0) 4 Yba.underlying30 (by kernel_rfl) rfl .i64 .i64 n (by omega) (by omega)
  have hbi := World.block_lt_of_cell? _ _ hs
  go_enter Yba.func18, Yba.ntmps18
  go_wp2
  go_loopw [23, 6, 7] (fun i _ _ wr => ∃ k : Nat, k ≤ n ∧ i = .int .i64 k ∧ wr.rowIs w.heap.size 21 n (seqF xs k) ∧ Below w.heap.size w wr) (fun i _ _ _ => n - (intOf i).toNat)
  case atStart => exact ⟨0, Nat.zero_le _, rfl, (World.rowIs_made w (.int .i32 0) n 21).congr (fun i _ => by simp [seqF]), (Below.refl _ _).alloc (Nat.le_refl _) _⟩
  case round =>
    obtain ⟨k, hk, rfl, hrow, hbel⟩ := hrel
    by_cases hlt : k < n
    · obtain ⟨c2, c3⟩ := HC.out k hlt
      have HX : ∃ x, xs.getD k 0 = x := ⟨_, rfl⟩
      obtain ⟨x, hx⟩ := HX
      rw [hx] at c2
      have HX : Hid (xs.getD k 0 = x) := hx
      clear hx
      have d2 := (hbel.cell (World.block_lt_of_cell? _ _ c2)).trans c2
      have d3 := (hbel.cell (World.block_lt_of_cell? _ _ c3)).trans c3
      have n2 := World.block_lt_of_cell? _ _ d2
      have hsz := hrow.lt
      have hne : w.heap.size ≠ wr.heap.size := by omega
      have f1 := hrow.frozen k
      have c1 := hrow.cell hlt
      clear c2 c3
      go_wp2
      go_roundw
      case rel =>
        refine ⟨k + 1, by omega, by go_num, (((hrow.set k _).alloc _).congr ?_), (hbel.setCell (p := ⟨w.heap.size, k, none⟩) (Nat.le_refl _) _).alloc (by rw [Go.Deep.nblk_setCell]; exact hbel.size) _⟩
        intro j hj
        by_cases e : j = k
        · subst e; simp only [seqF, if_true, if_pos (Nat.lt_succ_self j), HX.out]
        · have e2 : (j < k + 1) ↔ j < k := by omega
          simp only [seqF, if_neg e, e2]
      case measure => simp [intOf]; omega
    · have hk' : k = n := by omega
      subst hk'
      go_wp2
      go_ret
      exact ⟨rfl, hrow, hbel⟩

end Go.Proofs.Ybulkclzo.Seq
