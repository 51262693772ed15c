/-
  SEAT b4400a: THE PROOF OF 'Rows.LawS4400BClosesSaid'.
-/
import Derived.Test.YbulkcmcgBuild
import Derived.ShutString
import Derived.ChangeOld
namespace Go.Proofs.Ybulkcmcg.lawS4400BCloses
open Go.ChangeShapes Go.WideShapes Go.ChangeAt Go.RowKit
open Go.Proofs.Ybulkcmcg.Idle
set_option linter.unusedVariables false

theorem own : ownKnob Yba.prog.godebug = none := by kernel_rfl
theorem laidOut : laidOutB Yba.prog = true := by kernel_rfl

theorem big (q : Value) (xs : List Int) (w : World) (hq : Reads w q xs) (h : 1024 < xs.length) :
    Calls Yba.prog 3 #[q] w fun e w' => e = .returned (.bool true) ∧ Below w.heap.size w w' := by
  obtain ⟨a, cap, rfl, _, _⟩ := hq
  go_enter Yba.func3, Yba.ntmps3
  go_wp2
  go_ret
  exact ⟨rfl, Below.refl _ _⟩

set_option maxRecDepth 100000 in
set_option maxHeartbeats 1000000 in
theorem small (q : Value) (xs : List Int) (w : World) (hq : Reads w q xs) (hn : xs.length ≤ 1024) :
    Calls Yba.prog 3 #[q] w fun e w' => e = .returned (.bool true) ∧ Below w.heap.size w w' := by
  have HQ : Hid (Reads w q xs) := hq
  obtain ⟨a, cap, rfl, _, _⟩ := hq
  have hnn : ∀ w : World, (binOp .neq 56 (.slice none 0 0) (.slice none 0 0)).run Yba.prog w = .ok (.bool false) w := fun w => Go.run_neq_slice_nil w 56 75 none 0 0 Yba.underlying56
  go_enter Yba.func3, Yba.ntmps3
  go_wp2_with (first
    | (go_at_call 6; go_must (refine (build_any _ xs w.heap.size _ (HQ.out.under ((Below.refl w.heap.size w).alloc (Nat.le_refl _) _) (Nat.le_refl _)) hn).mono ?_; rintro e w1 ⟨C, rfl, hB⟩))
    | (go_at_call 7; go_must (refine (first_close w w1 C xs hB hn).mono ?_; rintro e w2 ⟨rfl, ⟨F, hr, h0, h19, h21⟩, ⟨lv, hl⟩, hC, hb2⟩; obtain ⟨la, lcap, rfl⟩ := own_formT hl.own; have HL : Hid (LogAt w2 w.heap.size w.heap.size (.slice la xs.length lcap) xs) := hl; have c21 : w2.cell? ⟨C, 21, none⟩ = some (.slice none 0 0) := (by rw [hr.cell (by omega), h21]); have c00 : w2.cell? ⟨C, 0, none⟩ = some (.string ⟨#[97, 58, 49]⟩) := (by rw [hr.cell (by omega), h0]); have cl : w2.cell? ⟨w.heap.size, 0, none⟩ = some (.slice la xs.length lcap) := hl.row.cell (by omega); clear hr h0 h19 h21 hl)))
  clear hB
  obtain ⟨n, hN⟩ : ∃ n, xs.length = n := ⟨_, rfl⟩
  have HN : Hid (xs.length = n) := hN
  rw [hN] at HQ HL hn cl ⊢
  clear hN
  go_loopw [5] (fun i wr => ∃ k : Nat, k ≤ n ∧ i = .int .i64 k ∧ ∃ m, wr = w2.drewN m) (fun i _ => n - (intOf i).toNat)
  case atStart => exact ⟨0, Nat.zero_le _, rfl, 0, rfl⟩
  case round =>
    obtain ⟨k, hk, rfl, m, rfl⟩ := hrel
    by_cases hlt : k < n
    · obtain ⟨a', cap', hqe, hrg, hcell⟩ := HQ.out.under hb2 (Nat.le_refl _)
      obtain ⟨bq, off, ha, cq⟩ := hcell k (by rw [HN.out]; exact hlt)
      cases hqe
      subst ha
      rcases HL.out.own.2 with ⟨_, q0⟩ | ⟨g, cap2, cur, q, _⟩
      · omega
      cases q
      have cg : w2.cell? ⟨g, k, none⟩ = some (.int .i64 (xs.getD k 0)) := by
        rw [HL.out.own.cellAt k (by omega), List.getElem?_map, List.getElem?_eq_getElem (by omega), List.getD_eq_getElem?_getD, List.getElem?_eq_getElem (by omega)]
        rfl
      obtain ⟨id, hid⟩ : ∃ id, xs.getD k 0 = id := ⟨_, rfl⟩
      have hr := hrg k
      rw [hid] at cq hr cg
      clear hcell hrg hid
      obtain ⟨r1, r2⟩ := hr
      go_wp2
      go_quiet (fail)
      go_wp2
      refine ⟨⟨k + 1, by omega, by simp, m + nq, rfl⟩, ?_⟩
      simp [intOf]
      omega
    · have hk' : k = n := by omega
      subst hk'
      go_wp2
      go_ret
      exact ⟨rfl, ⟨hb2.os, hb2.tape, hb2.output, hb2.size, hb2.block⟩⟩

theorem walk (q : Value) (xs : List Int) (w : World) (hq : Reads w q xs) : Calls Yba.prog 3 #[q] w fun e w' => e = .returned (.bool true) ∧ Below w.heap.size w w' := by
  rcases Nat.lt_or_ge 1024 xs.length with h | h
  · exact big q xs w hq h
  · exact small q xs w hq h

set_option maxRecDepth 100000 in
theorem lifted (os : Os) (started : os.Started) (H : Type) (enc : TypeId × Value → H) :
    ReturnsInHanded {} Yba.checked os 3 .any (Rows.lawS4400BClosesSpec.pre6 enc Yba.prog Yba.f3 Rows.lawS4400BClosesRow.domain false) (Rows.lawS4400BClosesSpec.post enc Yba.prog Yba.f3 false true false false) := by
  refine returnsInHanded_of_change (C := Yba.checked) own started (by kernel_rfl) Yba.func3
    (ChangeSpec.witness6 (enc := enc) (C := Yba.checked) false ⟨#[], #[.slice none 0 0], []⟩ 8 (by kernel_rfl) (by kernel_rfl) (by kernel_rfl) (by kernel_rfl)) ?_
  intro W base args ds gs before hval0 hW hcnd _
  have hval : ∀ (j : Nat) t v, Yba.f3.params[j]? = some t → args[j]? = some v → Value.okWide Yba.prog W .any base t v := hval0
  have hW' := hW
  obtain ⟨p, q, hA0, hV, rfl, hfz, hnd⟩ := hW
  have hA : DataW.TrodAll enc Yba.prog W 0 (fun _ => true) true Yba.f3.params.toList args.toList ds p := hA0
  rw [Yba.params3] at hA hval
  obtain ⟨v0, vs0, d0, ds0, p0, q0, hargs, rfl, rfl, h0, r0⟩ := trodAll_cons hA
  obtain ⟨rfl, rfl, rfl⟩ := trodAll_nil r0
  obtain rfl : args = #[v0] := by cases args; simp_all
  obtain ⟨rfl, rfl⟩ := trodVars_none hV
  obtain ⟨a0, len0, cap0, rfl⟩ := okWide_slice Yba.underlying22 (hval 0 22 v0 rfl rfl)
  have k0 := h0
  have lt0 : ∀ x ∈ p0, x.block < W.heap.size := by obtain ⟨m, hm⟩ := k0; exact DataW.trod_lt m _ _ _ hm
  obtain ⟨xs, w0⟩ := reads_of h0
  clear hA0 hval0
  refine (walk (.slice a0 len0 cap0) xs W w0).mono fun e W' ⟨he, bel⟩ => ?_
  subst he
  exact ⟨_, rfl, _, _, _, [], _, [], hW', trodAll_mk1 (shut_bool Yba.underlying4 _), (trodAll_cons_mk (Below.trod laidOut (by kernel_rfl) (of_decide_eq_true (by kernel_rfl)) k0 bel lt0) trodAll_mk0), rfl, bel.frame _, fun h => by cases h⟩

theorem over : Rows.lawS4400BClosesRow.holds Yba.pinned (OpenSpec.ofChange Rows.lawS4400BClosesSpec) :=
  OpenClaim.holds_of_wide 3 Yba.f3 rfl rfl rfl rfl rfl rfl rfl ⟨rfl, rfl, rfl, rfl, rfl⟩ rfl rfl rfl rfl rfl (by kernel_rfl) Yba.func3 (by kernel_rfl)
    (of_decide_eq_true (by kernel_rfl)) (by unfold Func.isWrapper; first | (rw [if_pos (by decide +kernel)]; kernel_rfl) | (rw [if_neg (by decide +kernel)]; exact ⟨rfl, rfl⟩))
    (fun os started H enc _ => lifted os started H enc)

/-- THE STATEMENT -/
theorem proved : Rows.LawS4400BClosesSaid := over

end Go.Proofs.Ybulkcmcg.lawS4400BCloses
