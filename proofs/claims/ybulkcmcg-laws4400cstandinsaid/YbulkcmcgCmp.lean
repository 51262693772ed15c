/-
  SEAT b4400a: the contracts of ByteEq (28), fips140/subtle.ConstantTimeCompare (19), crypto/subtle.ConstantTimeCompare (13).
-/
import Derived.Test.YbulkcmcgHex
import Derived.Laws.BitsAllLaws
namespace Go.Proofs.Ybulkcmcg.Sec
open Go.ChangeShapes Go.WideShapes Go.ChangeAt Go.RowKit

theorem call36_yes (w : World) : (callFunc 36 #[.bool true]).run Yba.prog w = .ok (.value (.int .u8 1)) w := by kernel_rfl
theorem call36_no (w : World) : (callFunc 36 #[.bool false]).run Yba.prog w = .ok (.value (.int .u8 0)) w := by kernel_rfl

set_option maxHeartbeats 400000 in
theorem byteEq_any (n : Nat) (w : World) : Calls Yba.prog 28 #[.int .u8 (n : Int), .int .u8 0] w fun e w' => e = .returned (.int .i64 (if n = 0 then 1 else 0)) ∧ w' = w := by
  have h1 := call36_yes
  have h2 := call36_no
  by_cases h : n = 0
  · subst h
    go_enter Yba.func28, Yba.ntmps28
    go_wp2
    go_ret
    exact ⟨rfl, rfl⟩
  · have hb : ((n : Int) == 0) = false := by rw [beq_eq_false_iff_ne]; omega
    rw [if_neg h]
    go_enter Yba.func28, Yba.ntmps28
    go_wp2
    go_ret
    exact ⟨rfl, rfl⟩

theorem or_zero (a b : Nat) : (a ||| b = 0) ↔ (a = 0 ∧ b = 0) := Nat.or_eq_zero_iff
theorem xor_zero (a b : Nat) : (a ^^^ b = 0) ↔ a = b := by
  constructor
  · intro h
    refine Nat.eq_of_testBit_eq fun i => ?_
    have e := congrArg (fun n => Nat.testBit n i) h
    simp only [Nat.testBit_xor, Nat.zero_testBit] at e
    cases ha : a.testBit i <;> cases hb : b.testBit i <;> simp_all
  · rintro rfl
    exact Nat.xor_self a

/-- Do the two texts agree? -/
def eqB (A B : Nat → Nat) (n : Nat) : Bool := n == 32 && (List.range 32).all fun i => A i == B i
theorem eqB_iff (A B : Nat → Nat) (n : Nat) : eqB A B n = true ↔ (n = 32 ∧ ∀ i, i < 32 → A i = B i) := by
  simp [eqB]

set_option maxRecDepth 100000 in
set_option maxHeartbeats 1000000 in
theorem cmp_any (Wb sb n c : Nat) (A B : Nat → Nat) (w : World) (hA : ∀ i, i < 32 → w.cell? ⟨Wb, i, none⟩ = some (.int .u8 (A i : Int))) (hB : ∀ i, i < n → w.cell? ⟨sb, i, none⟩ = some (.int .u8 (B i : Int)))
    (bA : ∀ i, i < 32 → A i < 256) (bB : ∀ i, i < n → B i < 256) (hn : n ≤ 100000) :
    Calls Yba.prog 19 #[.slice (some ⟨Wb, 0, none⟩) 32 32, .slice (some ⟨sb, 0, none⟩) n c] w fun e w' => e = .returned (.int .i64 (if eqB A B n then 1 else 0)) ∧ ∃ q, w' = w.drewN q := by
  by_cases h32 : n = 32
  · subst h32
    obtain ⟨R, hR⟩ : ∃ R : Int, (if eqB A B 32 then 1 else 0) = R := ⟨_, rfl⟩
    rw [hR]
    have HRE : Hid ((if eqB A B 32 then (1 : Int) else 0) = R) := hR
    clear hR
    have HA : Hid (∀ i, i < 32 → w.cell? ⟨Wb, i, none⟩ = some (.int .u8 (A i : Int))) := hA
    have HB : Hid (∀ i, i < 32 → w.cell? ⟨sb, i, none⟩ = some (.int .u8 (B i : Int))) := hB
    have HbA : Hid (∀ i, i < 32 → A i < 256) := bA
    have HbB : Hid (∀ i, i < 32 → B i < 256) := bB
    clear hA hB bA bB hn
    go_enter Yba.func19, Yba.ntmps19
    go_wp2
    go_loopw [6, 5] (fun i v wr => ∃ k acc : Nat, k ≤ 32 ∧ i = .int .i64 k ∧ v = .int .u8 (acc : Int) ∧ acc < 256 ∧ (acc = 0 ↔ ∀ j, j < k → A j = B j) ∧ ∃ q, wr = w.drewN q) (fun i _ _ => 32 - (intOf i).toNat)
    case atStart => exact ⟨0, 0, Nat.zero_le _, rfl, rfl, by omega, ⟨fun _ j hj => absurd hj (by omega), fun _ => rfl⟩, 0, rfl⟩
    case round =>
      obtain ⟨k, acc, hk, rfl, rfl, hacc, hiff, q, rfl⟩ := hrel
      have HI : Hid (acc = 0 ↔ ∀ j, j < k → A j = B j) := hiff
      clear hiff
      by_cases hlt : k < 32
      · have c1 := HA.out k hlt
        have c2 := HB.out k hlt
        have b1 := HbA.out k hlt
        have b2 := HbB.out k hlt
        obtain ⟨x, hx⟩ : ∃ x, A k = x := ⟨_, rfl⟩
        obtain ⟨y, hy⟩ : ∃ y, B k = y := ⟨_, rfl⟩
        rw [hx] at c1 b1
        rw [hy] at c2 b2
        have HX : Hid (A k = x) := hx
        have HY : Hid (B k = y) := hy
        have h1 := u8_xor_nat x y b1 b2
        have hxy : x ^^^ y < 256 := Nat.xor_lt_two_pow (n := 8) b1 b2
        have h2 := u8_or_nat acc (x ^^^ y) hacc hxy
        have hor : acc ||| (x ^^^ y) < 256 := Nat.or_lt_two_pow (n := 8) hacc hxy
        clear hx hy
        go_wp2
        go_quiet (fail)
        go_wp2
        go_roundw
        case rel =>
          refine ⟨k + 1, acc ||| (x ^^^ y), by omega, by go_num, rfl, hor, ?_, _, rfl⟩
          rw [or_zero, xor_zero, HI.out]
          constructor
          · rintro ⟨a1, a2⟩ j hj
            by_cases e : j = k
            · subst e; rw [HX.out, HY.out]; exact a2
            · exact a1 j (by omega)
          · intro a
            exact ⟨fun j hj => a j (by omega), by rw [← HX.out, ← HY.out]; exact a k (by omega)⟩
        case measure => simp [intOf]; omega
      · have hk' : k = 32 := by omega
        subst hk'
        have e : (acc = 0) ↔ (eqB A B 32 = true) := by
          rw [HI.out]
          rw [eqB_iff]
          exact ⟨fun h => ⟨rfl, h⟩, fun h => h.2⟩
        obtain ⟨r, hr⟩ : ∃ r : Int, (if acc = 0 then 1 else 0) = r := ⟨_, rfl⟩
        have HRR : Hid (r = R) := by
          show r = R
          rw [← hr, ← HRE.out]
          by_cases ha : acc = 0
          · rw [if_pos ha, if_pos (e.1 ha)]
          · rw [if_neg ha, if_neg (fun h => ha (e.2 h))]
        have HC : Hid (∀ w, Calls Yba.prog 28 #[.int .u8 (acc : Int), .int .u8 0] w fun e w' => e = .returned (.int .i64 r) ∧ w' = w) := fun w => by
          have h := byteEq_any acc w
          rw [hr] at h
          exact h
        clear hr e
        go_wp2_with (go_at_call 28; go_must (refine (HC.out _).mono ?_; rintro e w1 ⟨rfl, rfl⟩))
        go_ret
        exact ⟨congrArg (fun t => Ending.returned (Value.int .i64 t)) HRR.out, q, rfl⟩
  · have he : eqB A B n = false := by
      cases hc : eqB A B n
      · rfl
      · exact absurd ((eqB_iff A B n).1 hc).1 h32
    have hb : ((32 : Int) != (n : Int)) = true := by rw [bne_iff_ne]; omega
    rw [he]
    go_enter Yba.func19, Yba.ntmps19
    go_wp2
    go_ret
    exact ⟨rfl, 0, rfl⟩

set_option maxHeartbeats 400000 in
theorem cmp13_any (Wb sb n c : Nat) (A B : Nat → Nat) (w : World) (hA : ∀ i, i < 32 → w.cell? ⟨Wb, i, none⟩ = some (.int .u8 (A i : Int))) (hB : ∀ i, i < n → w.cell? ⟨sb, i, none⟩ = some (.int .u8 (B i : Int)))
    (bA : ∀ i, i < 32 → A i < 256) (bB : ∀ i, i < n → B i < 256) (hn : n ≤ 100000) :
    Calls Yba.prog 13 #[.slice (some ⟨Wb, 0, none⟩) 32 32, .slice (some ⟨sb, 0, none⟩) n c] w fun e w' => e = .returned (.int .i64 (if eqB A B n then 1 else 0)) ∧ ∃ q, w' = w.drewN q := by
  have hcon := cmp_any Wb sb n c A B w hA hB bA bB hn
  obtain ⟨r, hr⟩ : ∃ r : Int, (if eqB A B n then 1 else 0) = r := ⟨_, rfl⟩
  rw [hr] at hcon ⊢
  have HC : Hid (Calls Yba.prog 19 #[.slice (some ⟨Wb, 0, none⟩) 32 32, .slice (some ⟨sb, 0, none⟩) n c] w fun e w' => e = .returned (.int .i64 r) ∧ ∃ q, w' = w.drewN q) := hcon
  clear hcon hr
  clear hA hB bA bB
  go_enter Yba.func13, Yba.ntmps13
  go_wp2_with fail
  refine HC.out.mono ?_
  rintro e w1 ⟨rfl, q, rfl⟩
  go_wp2
  go_ret
  exact ⟨rfl, q, rfl⟩

end Go.Proofs.Ybulkcmcg.Sec
