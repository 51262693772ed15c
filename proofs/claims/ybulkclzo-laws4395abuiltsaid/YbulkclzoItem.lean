/-
  SEAT b4395a: the contracts of isLetter (19), isDigit (20), isItemByte (16), zzs4395aitem (8), skipItem (7).
-/
import Derived.Test.YbulkclzoRows
import Derived.WalkKit
import Derived.ProofKit
import Derived.Below
namespace Go.Proofs.Ybulkclzo.Item
open Go.ChangeShapes Go.WideShapes Go.ChangeAt Go.RowKit

def letB (b : Int) : Bool := decide ((97 ≤ b ∧ b ≤ 122) ∨ (65 ≤ b ∧ b ≤ 90))
def digB (b : Int) : Bool := decide (48 ≤ b ∧ b ≤ 57)
def itB (b : Int) : Bool := decide ((97 ≤ b ∧ b ≤ 122) ∨ (65 ≤ b ∧ b ≤ 90) ∨ (48 ≤ b ∧ b ≤ 57) ∨ b = 95 ∨ b = 46 ∨ b = 45)

theorem ret_bool {a b : Bool} (h : a = b) : Ending.returned (.bool a) = .returned (.bool b) := by rw [h]

set_option maxHeartbeats 400000 in
theorem letter_any (b : Int) (w : World) : Calls Yba.prog 19 #[.int .u8 b] w fun e w' => e = .returned (.bool (letB b)) ∧ w' = w := by
  by_cases h1 : 97 ≤ b <;> by_cases h2 : b ≤ 122 <;> by_cases h3 : 65 ≤ b <;> by_cases h4 : b ≤ 90 <;> first | (exfalso; omega) | skip
  all_goals
    go_enter Yba.func19, Yba.ntmps19
    go_wp2
    go_ret
    exact ⟨ret_bool (by simp [letB]; omega), rfl⟩

set_option maxHeartbeats 400000 in
theorem digit_any (b : Int) (w : World) : Calls Yba.prog 20 #[.int .u8 b] w fun e w' => e = .returned (.bool (digB b)) ∧ w' = w := by
  by_cases h1 : 48 ≤ b <;> by_cases h2 : b ≤ 57 <;> first | (exfalso; omega) | skip
  all_goals
    go_enter Yba.func20, Yba.ntmps20
    go_wp2
    go_ret
    exact ⟨ret_bool (by simp [digB]; omega), rfl⟩

set_option maxHeartbeats 400000 in
theorem itemByte_any (b : Int) (w : World) : Calls Yba.prog 16 #[.int .u8 b] w fun e w' => e = .returned (.bool (itB b)) ∧ w' = w := by
  cases hl : letB b
  · cases hd : digB b
    · by_cases h1 : b = 95 <;> by_cases h2 : b = 46 <;> by_cases h3 : b = 45 <;> first | (exfalso; omega) | skip
      all_goals
        have hl' : ¬ ((97 ≤ b ∧ b ≤ 122) ∨ (65 ≤ b ∧ b ≤ 90)) := of_decide_eq_false hl
        have hd' : ¬ (48 ≤ b ∧ b ≤ 57) := of_decide_eq_false hd
        have hl2 : Hid (¬ ((97 ≤ b ∧ b ≤ 122) ∨ (65 ≤ b ∧ b ≤ 90))) := hl'
        have hd2 : Hid (¬ (48 ≤ b ∧ b ≤ 57)) := hd'
        clear hl' hd'
        go_enter Yba.func16, Yba.ntmps16
        go_wp2_with (first | (go_at_call 19; refine (letter_any _ _).mono ?_; rintro e w' ⟨rfl, rfl⟩) | (go_at_call 20; refine (digit_any _ _).mono ?_; rintro e w' ⟨rfl, rfl⟩))
        go_ret
        have hl3 := hl2.out
        have hd3 := hd2.out
        refine ⟨ret_bool ?_, rfl⟩
        first | (subst h1; decide) | (subst h2; decide) | (subst h3; decide) | (have hn : itB b = false := by (unfold itB; exact decide_eq_false (by omega))
                                                                                rw [hn]; simp [h1, h2, h3])
    · go_enter Yba.func16, Yba.ntmps16
      go_wp2_with (first | (go_at_call 19; refine (letter_any _ _).mono ?_; rintro e w' ⟨rfl, rfl⟩) | (go_at_call 20; refine (digit_any _ _).mono ?_; rintro e w' ⟨rfl, rfl⟩))
      go_ret
      have hd' : (48 ≤ b ∧ b ≤ 57) := of_decide_eq_true hd
      exact ⟨ret_bool (by simp [itB]; omega), rfl⟩
  · go_enter Yba.func16, Yba.ntmps16
    go_wp2_with (first | (go_at_call 19; refine (letter_any _ _).mono ?_; rintro e w' ⟨rfl, rfl⟩) | (go_at_call 20; refine (digit_any _ _).mono ?_; rintro e w' ⟨rfl, rfl⟩))
    go_ret
    have hd' : ((97 ≤ b ∧ b ≤ 122) ∨ (65 ≤ b ∧ b ≤ 90)) := of_decide_eq_true hl
    exact ⟨ret_bool (by simp [itB]; omega), rfl⟩

set_option maxHeartbeats 400000 in
theorem aitem_any (b : Int) (w : World) : Calls Yba.prog 8 #[.int .u8 b] w fun e w' => e = .returned (.bool (itB b)) ∧ w' = w := by
  go_enter Yba.func8, Yba.ntmps8
  go_wp2
  all_goals
    go_ret
    refine ⟨ret_bool ?_, rfl⟩
    simp_all [itB]
    try omega

/-- 'r' is the first index from 'i' on whose byte is no item byte, or the length; 'i' itself where it lies behind the end. -/
def Skips (s : ByteArray) (i r : Nat) : Prop :=
  i ≤ r ∧ (s.size ≤ i → r = i) ∧ (i < s.size → r ≤ s.size) ∧ (∀ k (hk : k < s.size), i ≤ k → k < r → itB (s[k].toNat : Int) = true) ∧ (∀ (hr : r < s.size), itB (s[r].toNat : Int) = false)

theorem ret_i64 {a b : Int} (h : a = b) : Ending.returned (.int .i64 a) = .returned (.int .i64 b) := by rw [h]

set_option maxHeartbeats 400000 in
theorem skip_any (s : ByteArray) (i : Nat) (w : World) (hs : s.size ≤ 4096) (hi : i ≤ s.size + 1) :
    Calls Yba.prog 7 #[.string s, .int .i64 i] w fun e w' => w' = w ∧ ∃ r : Nat, e = .returned (.int .i64 r) ∧ Skips s i r := by
  go_enter Yba.func7, Yba.ntmps7
  go_wp2
  go_loop [1] (fun j => ∃ r : Nat, j = .int .i64 r ∧ i ≤ r ∧ (s.size ≤ i → r = i) ∧ (i < s.size → r ≤ s.size) ∧ (∀ k (hk : k < s.size), i ≤ k → k < r → itB (s[k].toNat : Int) = true)) (fun j => s.size - (intOf j).toNat)
  case atStart => exact ⟨i, rfl, Nat.le_refl _, fun _ => rfl, fun h => Nat.le_of_lt h, fun k hk h1 h2 => absurd h2 (by omega)⟩
  case round =>
    obtain ⟨r, rfl, h1, h2, h3, h4⟩ := hrel
    have H2 : Hid (s.size ≤ i → r = i) := h2
    have H3 : Hid (i < s.size → r ≤ s.size) := h3
    have H4 : Hid (∀ k (hk : k < s.size), i ≤ k → k < r → itB (s[k].toNat : Int) = true) := h4
    have hr : r ≤ s.size + 1 := by omega
    clear h2 h3 h4
    by_cases hlt : r < s.size
    · cases hb : itB (s[r].toNat : Int)
      · go_wp2_with (go_at_call 16; refine (itemByte_any _ _).mono ?_; rintro e w' ⟨rfl, rfl⟩)
        go_ret
        exact ⟨rfl, r, rfl, h1, H2.out, H3.out, H4.out, fun hr => hb⟩
      · go_wp2_with (go_at_call 16; refine (itemByte_any _ _).mono ?_; rintro e w' ⟨rfl, rfl⟩)
        go_round
        case rel =>
          have a2 := H2.out
          have a4 := H4.out
          refine ⟨r + 1, by go_num, by omega, by omega, by omega, fun k hk x1 x2 => ?_⟩
          by_cases e : k = r
          · subst e; exact hb
          · exact a4 k hk x1 (by omega)
        case measure => simp [intOf]; omega
    · go_wp2_with (go_at_call 16; refine (itemByte_any _ _).mono ?_; rintro e w' ⟨rfl, rfl⟩)
      go_ret
      exact ⟨rfl, r, rfl, h1, H2.out, H3.out, H4.out, fun hr => absurd hr hlt⟩

end Go.Proofs.Ybulkclzo.Item
