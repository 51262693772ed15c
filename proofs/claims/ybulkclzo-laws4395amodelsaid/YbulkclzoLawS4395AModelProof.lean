/-
  THE PROOF OF 'Rows.LawS4395AModelSaid' (the guide's frame, the walk filled).
-/
import Derived.Test.YbulkclzoRows
import Derived.WalkKit
import Derived.ProofKit
import Derived.OpenShut
import Derived.ShutString
import Derived.Test.YbulkclzoItem
namespace Go.Proofs.Ybulkclzo.lawS4395AModel
open Go.ChangeShapes Go.WideShapes Go.ChangeAt Go.RowKit
open Go.ChangeMaps (open_string shut_string)
open Go.Proofs.Ybulkclzo.Item
set_option linter.unusedVariables false      -- a walk need not use every 'w<i>' (that an integer argument fits its kind)

theorem own : ownKnob Yba.prog.godebug = none := by kernel_rfl

/-! ### STEP 1: THE WALK: the Go text returns true. 'Grown w w'': the world has at most new blocks (Derived/RowKit3.lean). Part the cases AHEAD of 'go_enter' where a test parts the walk; take each callee by a contract of your own. -/
set_option maxHeartbeats 1000000 in
theorem walk (a0 : ByteArray) (a1 : Int) (w0 : a0.size ≤ maxLen) (w1 : (Lit.int .u16 a1).wf = true) (w : World) :
    Calls Yba.prog 3 #[.string a0, .int .u16 a1] w fun e w' => e = .returned (.bool true) ∧ Grown w w' := by
  have hb := bounds_u16 w1
  by_cases hbig : 4096 < a0.size
  · go_enter Yba.func3, Yba.ntmps3
    go_wp2
    go_ret
    exact ⟨rfl, by repeat (first | exact Grown.refl _ | apply Grown.drew | apply Grown.alloc)⟩
  · obtain ⟨n, rfl⟩ := Int.eq_ofNat_of_zero_le hb.1
    obtain ⟨i, hi, he⟩ : ∃ i : Nat, i ≤ a0.size + 1 ∧ ((n : Int) % ((a0.size : Int) + 2)) = (i : Int) :=
      ⟨n % (a0.size + 2), by have := Nat.mod_lt n (show 0 < a0.size + 2 by omega); omega, by simp⟩
    have hs : a0.size ≤ 4096 := by omega
    clear w0 w1
    go_enter Yba.func3, Yba.ntmps3
    go_wp2_with fail
    refine (skip_any _ _ _ hs hi).mono ?_
    rintro e w' ⟨rfl, r, rfl, s1, s2, s3, s4, s5⟩
    have H2 : Hid (a0.size ≤ i → r = i) := s2
    have H3 : Hid (i < a0.size → r ≤ a0.size) := s3
    have H4 : Hid (∀ k (hk : k < a0.size), i ≤ k → k < r → itB (a0[k].toNat : Int) = true) := s4
    have H5 : Hid (∀ (hr : r < a0.size), itB (a0[r].toNat : Int) = false) := s5
    clear s2 s3 s4 s5
    by_cases hlt : i < a0.size
    · have hr := H3.out hlt
      have d0 : decide (a0.size ≤ i) = false := by simp; omega
      have d1 : decide (r < i) = false := by simp; omega
      have d2 : decide (a0.size < r) = false := by simp; omega
      go_wp2_with fail
      go_loop [7] (fun j => ∃ k : Nat, j = .int .i64 k ∧ i ≤ k ∧ k ≤ r) (fun j => r - (intOf j).toNat)
      case atStart => exact ⟨i, rfl, Nat.le_refl _, s1⟩
      case round =>
        obtain ⟨k, rfl, k1, k2⟩ := hrel
        by_cases hk : k < r
        · have hb := H4.out k (by omega) k1 hk
          go_wp2_with (go_at_call 8; refine (aitem_any _ _).mono ?_; rintro e w' ⟨rfl, rfl⟩)
          go_round
          case rel => exact ⟨k + 1, by go_num, by omega, by omega⟩
          case measure => simp [intOf]; omega
        · by_cases hz : r < a0.size
          · have hb := H5.out hz
            go_wp2_with (go_at_call 8; refine (aitem_any _ _).mono ?_; rintro e w' ⟨rfl, rfl⟩)
            go_ret
            exact ⟨rfl, by repeat (first | exact Grown.refl _ | apply Grown.drew | apply Grown.alloc)⟩
          · have hz' : r = a0.size := by omega
            subst hz'
            go_wp2_with fail
            go_ret
            exact ⟨rfl, by repeat (first | exact Grown.refl _ | apply Grown.drew | apply Grown.alloc)⟩
    · have hr := H2.out (by omega)
      subst hr
      go_wp2_with fail
      go_ret
      exact ⟨by simp, by repeat (first | exact Grown.refl _ | apply Grown.drew | apply Grown.alloc)⟩

/-! ### THE ROW's STEP: WRITTEN OUT: LEAVE IT -/
set_option maxRecDepth 100000 in
theorem lifted (os : Os) (started : os.Started) (H : Type) (enc : TypeId × Value → H) :
    ReturnsInHanded {} Yba.checked os 3 .any (Rows.lawS4395AModelSpec.pre6 enc Yba.prog Yba.f3 Rows.lawS4395AModelRow.domain false) (Rows.lawS4395AModelSpec.post enc Yba.prog Yba.f3 false true false false) := by
  refine returnsInHanded_of_change (C := Yba.checked) own started (by kernel_rfl) Yba.func3
    (ChangeSpec.witness6 (enc := enc) (C := Yba.checked) false ⟨#[], #[.string ByteArray.empty, .int .u16 0], []⟩ 8 (by kernel_rfl) (by kernel_rfl) (by kernel_rfl) (by kernel_rfl)) ?_
  intro W base args ds gs before hval0 hW hcnd _
  have hval : ∀ (j : Nat) t v, Yba.f3.params[j]? = some t → args[j]? = some v → Value.okWide Yba.prog W .any base t v := hval0
  have hW' := hW
  obtain ⟨p, q, hA0, hV, rfl, hfz, hnd⟩ := hW
  have hA : DataW.TrodAll enc Yba.prog W 0 (fun _ => true) true Yba.f3.params.toList args.toList ds p := hA0
  rw [Yba.params3] at hA hval
  obtain ⟨v0, vs0, d0, ds0, p0, q0, hargs, rfl, rfl, h0, r0⟩ := trodAll_cons hA
  obtain ⟨v1, vs1, d1, ds1, p1, q1, rfl, rfl, rfl, h1, r1⟩ := trodAll_cons r0
  obtain ⟨rfl, rfl, rfl⟩ := trodAll_nil r1
  obtain rfl : args = #[v0, v1] := by cases args; simp_all
  obtain ⟨rfl, rfl⟩ := trodVars_none hV
  obtain ⟨a0, rfl, rfl, rfl, w0⟩ := open_string Yba.underlying9 (hval 0 9 v0 rfl rfl) h0
  obtain ⟨a1, rfl, rfl, rfl, w1⟩ := open_int Yba.underlying22 (hval 1 22 v1 rfl rfl) h1
  clear hA0 hval0
  simp only [List.append_nil] at hW'
  refine (walk a0 a1 w0 w1 W).mono fun e W' ⟨he, hg⟩ => ?_
  subst he
  exact ⟨_, rfl, post_of_same (pa := []) (pv := []) hW' (fun _ _ _ => (trodAll_cons_mk (shut_bool Yba.underlying4 _) trodAll_mk0)) (fun sp _ => (trodAll_cons_mk (shut_string Yba.underlying9 w0) (trodAll_cons_mk (shut_int Yba.underlying22 w1) trodAll_mk0))) (fun _ _ => rfl) rfl
    (hg.frame _) hg.2.1 (ok_one (by kernel_rfl) rfl (okWide_bool_mk Yba.underlying4 _))⟩

theorem over : Rows.lawS4395AModelRow.holds Yba.pinned (OpenSpec.ofChange Rows.lawS4395AModelSpec) :=
  OpenClaim.holds_of_wide 3 Yba.f3 rfl rfl rfl rfl rfl rfl rfl ⟨rfl, rfl, rfl, rfl, rfl⟩ rfl rfl rfl rfl rfl (by kernel_rfl) Yba.func3 (by kernel_rfl)
    (of_decide_eq_true (by kernel_rfl)) (by unfold Func.isWrapper; first | (rw [if_pos (by decide +kernel)]; kernel_rfl) | (rw [if_neg (by decide +kernel)]; exact ⟨rfl, rfl⟩))
    (fun os started H enc _ => lifted os started H enc)

/-- ████ THE STATEMENT ████ -/
theorem proved : Rows.LawS4395AModelSaid :=
  over
end Go.Proofs.Ybulkclzo.lawS4395AModel
