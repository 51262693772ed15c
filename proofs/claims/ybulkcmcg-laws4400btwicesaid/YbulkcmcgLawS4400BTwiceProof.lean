/-
  SEAT b4400a: THE PROOF OF 'Rows.LawS4400BTwiceSaid'.
-/
import Derived.Test.YbulkcmcgBuild
import Derived.ShutString
import Derived.ChangeOld
namespace Go.Proofs.Ybulkcmcg.lawS4400BTwice
open Go.ChangeShapes Go.WideShapes Go.ChangeAt Go.RowKit
open Go.Proofs.Ybulkcmcg.Idle
set_option linter.unusedVariables false

theorem own : ownKnob Yba.prog.godebug = none := by kernel_rfl
theorem laidOut : laidOutB Yba.prog = true := by kernel_rfl

theorem big (q : Value) (xs : List Int) (w : World) (hq : Reads w q xs) (h : 1024 < xs.length) :
    Calls Yba.prog 4 #[q] w fun e w' => e = .returned (.bool true) ∧ Below w.heap.size w w' := by
  obtain ⟨a, cap, rfl, _, _⟩ := hq
  go_enter Yba.func4, Yba.ntmps4
  go_wp2
  go_ret
  exact ⟨rfl, Below.refl _ _⟩

set_option maxRecDepth 100000 in
set_option maxHeartbeats 1000000 in
theorem small (q : Value) (xs : List Int) (w : World) (hq : Reads w q xs) (hn : xs.length ≤ 1024) :
    Calls Yba.prog 4 #[q] w fun e w' => e = .returned (.bool true) ∧ Below w.heap.size w w' := by
  have HQ : Hid (Reads w q xs) := hq
  obtain ⟨a, cap, rfl, _, _⟩ := hq
  have hnn : ∀ w : World, (binOp .eql 56 (.slice none 0 0) (.slice none 0 0)).run Yba.prog w = .ok (.bool true) w := fun w => Go.run_eql_slice_nil w 56 75 none 0 0 Yba.underlying56
  go_enter Yba.func4, Yba.ntmps4
  go_wp2_with (first
    | (go_at_call 6; go_must (refine (build_any _ xs w.heap.size _ (HQ.out.under ((Below.refl w.heap.size w).alloc (Nat.le_refl _) _) (Nat.le_refl _)) hn).mono ?_; rintro e w1 ⟨C, rfl, hB⟩))
    | (go_at_call 7; refine (first_close w w1 C xs hB hn).mono ?_; rintro e w2 ⟨rfl, hD⟩; have HD : Hid (Done w w2 C xs) := hD; obtain ⟨_, ⟨lv, hl⟩, _, _⟩ := hD; obtain ⟨la, lcap, rfl⟩ := own_formT hl.own; have cl : w2.cell? ⟨w.heap.size, 0, none⟩ = some (.slice la xs.length lcap) := hl.row.cell (by omega); clear hB hl)
    | (go_at_call 7; refine (second_close w w2 C xs HD.out hn).mono ?_; rintro e w3 ⟨rfl, ⟨F, hr, h0, h19, h21⟩, ⟨lv, hl⟩, hC, hb3⟩; obtain ⟨lb, mcap, rfl⟩ := own_formT hl.own; have cl3 : w3.cell? ⟨w.heap.size, 0, none⟩ = some (.slice lb xs.length mcap) := hl.row.cell (by omega); have c21 : w3.cell? ⟨C, 21, none⟩ = some (.slice none 0 0) := (by rw [hr.cell (by omega), h21]); clear cl HD hr h0 h19 h21 hl))
  go_ret
  exact ⟨rfl, hb3⟩

theorem walk (q : Value) (xs : List Int) (w : World) (hq : Reads w q xs) : Calls Yba.prog 4 #[q] w fun e w' => e = .returned (.bool true) ∧ Below w.heap.size w w' := by
  rcases Nat.lt_or_ge 1024 xs.length with h | h
  · exact big q xs w hq h
  · exact small q xs w hq h

set_option maxRecDepth 100000 in
theorem lifted (os : Os) (started : os.Started) (H : Type) (enc : TypeId × Value → H) :
    ReturnsInHanded {} Yba.checked os 4 .any (Rows.lawS4400BTwiceSpec.pre6 enc Yba.prog Yba.f4 Rows.lawS4400BTwiceRow.domain false) (Rows.lawS4400BTwiceSpec.post enc Yba.prog Yba.f4 false true false false) := by
  refine returnsInHanded_of_change (C := Yba.checked) own started (by kernel_rfl) Yba.func4
    (ChangeSpec.witness6 (enc := enc) (C := Yba.checked) false ⟨#[], #[.slice none 0 0], []⟩ 8 (by kernel_rfl) (by kernel_rfl) (by kernel_rfl) (by kernel_rfl)) ?_
  intro W base args ds gs before hval0 hW hcnd _
  have hval : ∀ (j : Nat) t v, Yba.f4.params[j]? = some t → args[j]? = some v → Value.okWide Yba.prog W .any base t v := hval0
  have hW' := hW
  obtain ⟨p, q, hA0, hV, rfl, hfz, hnd⟩ := hW
  have hA : DataW.TrodAll enc Yba.prog W 0 (fun _ => true) true Yba.f4.params.toList args.toList ds p := hA0
  rw [Yba.params4] at hA hval
  obtain ⟨v0, vs0, d0, ds0, p0, q0, hargs, rfl, rfl, h0, r0⟩ := trodAll_cons hA
  obtain ⟨rfl, rfl, rfl⟩ := trodAll_nil r0
  obtain rfl : args = #[v0] := by cases args; simp_all
  obtain ⟨rfl, rfl⟩ := trodVars_none hV
  obtain ⟨a0, len0, cap0, rfl⟩ := okWide_slice Yba.underlying22 (hval 0 22 v0 rfl rfl)
  have k0 := h0
  have lt0 : ∀ x ∈ p0, x.block < W.heap.size := by obtain ⟨m, hm⟩ := k0; exact DataW.trod_lt m _ _ _ hm
  obtain ⟨xs, w0⟩ := reads_of h0
  clear hA0 hval0
  refine (walk (.slice a0 len0 cap0) xs W w0).mono fun e W' ⟨he, bel⟩ => ?_
  subst he
  exact ⟨_, rfl, _, _, _, [], _, [], hW', trodAll_mk1 (shut_bool Yba.underlying4 _), (trodAll_cons_mk (Below.trod laidOut (by kernel_rfl) (of_decide_eq_true (by kernel_rfl)) k0 bel lt0) trodAll_mk0), rfl, bel.frame _, fun h => by cases h⟩

theorem over : Rows.lawS4400BTwiceRow.holds Yba.pinned (OpenSpec.ofChange Rows.lawS4400BTwiceSpec) :=
  OpenClaim.holds_of_wide 4 Yba.f4 rfl rfl rfl rfl rfl rfl rfl ⟨rfl, rfl, rfl, rfl, rfl⟩ rfl rfl rfl rfl rfl (by kernel_rfl) Yba.func4 (by kernel_rfl)
    (of_decide_eq_true (by kernel_rfl)) (by unfold Func.isWrapper; first | (rw [if_pos (by decide +kernel)]; kernel_rfl) | (rw [if_neg (by decide +kernel)]; exact ⟨rfl, rfl⟩))
    (fun os started H enc _ => lifted os started H enc)

/-- THE STATEMENT -/
theorem proved : Rows.LawS4400BTwiceSaid := over

end Go.Proofs.Ybulkcmcg.lawS4400BTwice
