/-
  SEAT b4400a: THE PROOF OF 'Rows.LawS4400CStandInSaid'.
-/
import Derived.Test.YbulkcmcgStandA
import Derived.Test.YbulkcmcgStandB
import Derived.Test.YbulkcmcgStandC
import Derived.ShutString
import Derived.ChangeOld
namespace Go.Proofs.Ybulkcmcg.lawS4400CStandIn
open Go.ChangeShapes Go.WideShapes Go.ChangeAt Go.RowKit
open Go.ChangeMaps (open_string shut_string)
open Go.Proofs.Ybulkcmcg.Sec
set_option linter.unusedVariables false

theorem own : ownKnob Yba.prog.godebug = none := by kernel_rfl
theorem laidOut : laidOutB Yba.prog = true := by kernel_rfl
theorem cells60 : Yba.prog.cellsOf 60 = 32 := by kernel_rfl
theorem cells5 : Yba.prog.cellsOf 5 = 1 := by kernel_rfl

theorem wide_arr {P : Program} {W : World} {base n : Nat} {t e : TypeId} {v : Value} (hu : P.underlying t = some (.array n e)) (h : Value.okWide P W .any base t v) : ∃ cs, v = .agg cs ∧ cs.size = P.cellsOf t := by
  unfold Value.okWide at h
  rw [hu] at h
  obtain ⟨cs, h1, h2, _⟩ := h
  exact ⟨cs, h1, h2⟩
set_option maxRecDepth 100000 in
theorem wide_array {W : World} {base : Nat} {v : Value} (h : Value.okWide Yba.prog W .any base 60 v) : ∃ cs, v = .agg cs ∧ cs.size = 32 := by
  obtain ⟨cs, h1, h2⟩ := wide_arr (P := Yba.prog) (t := 60) Yba.underlying60 h
  exact ⟨cs, h1, h2.trans cells60⟩

theorem arr_of {H : Type} {enc : TypeId × Value → H} {W : World} {base fuel : Nat} {sp : Nat → Bool} {held : Bool} {cs : Array Value} {x : DataW H × List MemPlace} (hs : cs.size = 32)
    (h : DataW.trod enc Yba.prog W base sp held fuel 60 cs.toList = some x) : ∃ z : Nat → Nat, (∀ i, z i ≤ 255) ∧ cs = arr z := by
  obtain ⟨xs, m, _, _, _, hl, hel⟩ := DataW.trod_array Yba.underlying60 h
  have key : ∀ i, i < 32 → ∃ n : Nat, n ≤ 255 ∧ cs[i]? = some (.int .u8 (n : Int)) := fun i hi => by
    have hE := hel i hi
    rw [cells5, Nat.mul_one, List.getElem?_eq_getElem (by omega)] at hE
    obtain ⟨a, e1, _, e3⟩ := DataW.trod_int Yba.underlying5 hE
    have hb := bounds_u8 e3
    refine ⟨a.toNat, by omega, ?_⟩
    have h0 : ((cs.toList.drop i).take 1)[0]? = some (.int .u8 a) := by rw [e1]; rfl
    rw [show ((a.toNat : Nat) : Int) = a by omega]
    simpa using h0
  obtain ⟨z, hz, hc⟩ : ∃ z : Nat → Nat, (∀ i, z i ≤ 255) ∧ ∀ i, i < 32 → cs[i]? = some (.int .u8 (z i : Int)) := by
    refine ⟨fun i => if h : i < 32 then (key i h).choose else 0, fun i => ?_, fun i hi => ?_⟩
    · by_cases h : i < 32
      · simp only [h, dite_true]; exact (key i h).choose_spec.1
      · simp only [h, dite_false]; omega
    · simp only [hi, dite_true]; exact (key i hi).choose_spec.2
  refine ⟨z, hz, Array.ext (by rw [hs, arr_size]) (fun i h1 h2 => ?_)⟩
  have hi : i < 32 := by omega
  have e := hc i hi
  have e2 := arr_at z i hi
  rw [Array.getElem?_eq_getElem h1] at e
  rw [Array.getElem?_eq_getElem h2] at e2
  exact Option.some.inj (e.trans e2.symm)

set_option maxRecDepth 100000 in
set_option maxHeartbeats 1000000 in
theorem big (z : Nat → Nat) (tok : Int) (name client secret : ByteArray) (pick : Int) (w : World) (h : 4096 < name.size ∨ 4096 < client.size ∨ 4096 < secret.size) :
    Calls Yba.prog 5 #[.agg (arr z), .int .u64 tok, .string name, .string client, .string secret, .int .u8 pick] w fun e w' => e = .returned (.bool true) ∧ Below w.heap.size w w' := by
  have harr : (arr z).size = 32 := arr_size z
  by_cases h1 : 4096 < name.size
  · go_enter Yba.func5, Yba.ntmps5
    go_wp2
    go_ret
    exact ⟨rfl, (Below.refl _ _).alloc (Nat.le_refl _) _⟩
  · by_cases h2 : 4096 < client.size
    · go_enter Yba.func5, Yba.ntmps5
      go_wp2
      go_ret
      exact ⟨rfl, (Below.refl _ _).alloc (Nat.le_refl _) _⟩
    · have h3 : 4096 < secret.size := by omega
      go_enter Yba.func5, Yba.ntmps5
      go_wp2
      go_ret
      exact ⟨rfl, (Below.refl _ _).alloc (Nat.le_refl _) _⟩

theorem walk (z : Nat → Nat) (tok : Int) (name client secret : ByteArray) (pick : Int) (w : World) (hz : ∀ i, z i ≤ 255) (ht : 0 ≤ tok ∧ tok ≤ 18446744073709551615) (hp : 0 ≤ pick ∧ pick ≤ 255) :
    Calls Yba.prog 5 #[.agg (arr z), .int .u64 tok, .string name, .string client, .string secret, .int .u8 pick] w fun e w' => e = .returned (.bool true) ∧ Below w.heap.size w w' := by
  by_cases hbig : 4096 < name.size ∨ 4096 < client.size ∨ 4096 < secret.size
  · exact big z tok name client secret pick w hbig
  · obtain ⟨n, rfl⟩ : ∃ n : Nat, pick = (n : Int) := ⟨pick.toNat, by omega⟩
    have hn : n ≤ 255 := by omega
    have h3 : n % 3 = 0 ∨ n % 3 = 1 ∨ n % 3 = 2 := by omega
    rcases h3 with h3 | h3 | h3
    · exact stand_walkA z tok name client secret n w hz ht.1 ht.2 hn h3 (by omega) (by omega) (by omega)
    · exact stand_walkB z tok name client secret n w hz ht.1 ht.2 hn h3 (by omega) (by omega) (by omega)
    · exact stand_walkC z tok name client secret n w hz ht.1 ht.2 hn h3 (by omega) (by omega) (by omega)

set_option maxRecDepth 100000 in
theorem lifted (os : Os) (started : os.Started) (H : Type) (enc : TypeId × Value → H) :
    ReturnsInHanded {} Yba.checked os 5 .any (Rows.lawS4400CStandInSpec.pre6 enc Yba.prog Yba.f5 Rows.lawS4400CStandInRow.domain false) (Rows.lawS4400CStandInSpec.post enc Yba.prog Yba.f5 false true false false) := by
  refine returnsInHanded_of_change (C := Yba.checked) own started (by kernel_rfl) Yba.func5
    (ChangeSpec.witness6 (enc := enc) (C := Yba.checked) false ⟨#[], #[.agg (Array.replicate 32 (.int .u8 0)), .int .u64 0, .string ⟨#[]⟩, .string ⟨#[]⟩, .string ⟨#[]⟩, .int .u8 0], []⟩ 8 (by kernel_rfl) (by kernel_rfl) (by kernel_rfl) (by kernel_rfl)) ?_
  intro W base args ds gs before hval0 hW hcnd _
  have hval : ∀ (j : Nat) t v, Yba.f5.params[j]? = some t → args[j]? = some v → Value.okWide Yba.prog W .any base t v := hval0
  have hW' := hW
  obtain ⟨p, q, hA0, hV, rfl, hfz, hnd⟩ := hW
  have hA : DataW.TrodAll enc Yba.prog W 0 (fun _ => true) true Yba.f5.params.toList args.toList ds p := hA0
  rw [Yba.params5] at hA hval
  obtain ⟨v0, vs0, d0, ds0, p0, q0, hargs, rfl, rfl, h0, r0⟩ := trodAll_cons hA
  obtain ⟨v1, vs1, d1, ds1, p1, q1, rfl, rfl, rfl, h1, r1⟩ := trodAll_cons r0
  obtain ⟨v2, vs2, d2, ds2, p2, q2, rfl, rfl, rfl, h2, r2⟩ := trodAll_cons r1
  obtain ⟨v3, vs3, d3, ds3, p3, q3, rfl, rfl, rfl, h3, r3⟩ := trodAll_cons r2
  obtain ⟨v4, vs4, d4, ds4, p4, q4, rfl, rfl, rfl, h4, r4⟩ := trodAll_cons r3
  obtain ⟨v5, vs5, d5, ds5, p5, q5, rfl, rfl, rfl, h5, r5⟩ := trodAll_cons r4
  obtain ⟨rfl, rfl, rfl⟩ := trodAll_nil r5
  obtain rfl : args = #[v0, v1, v2, v3, v4, v5] := by cases args; simp_all
  obtain ⟨rfl, rfl⟩ := trodVars_none hV
  obtain ⟨cs, rfl, hcs⟩ := wide_array (hval 0 60 v0 rfl rfl)
  have k0 := h0
  have lt0 : ∀ x ∈ p0, x.block < W.heap.size := by obtain ⟨m, hm⟩ := k0; exact DataW.trod_lt m _ _ _ hm
  obtain ⟨z, hz, rfl⟩ : ∃ z : Nat → Nat, (∀ i, z i ≤ 255) ∧ cs = arr z := by
    obtain ⟨fuel, hf⟩ := h0
    exact arr_of hcs (by simpa [Value.cells] using hf)
  obtain ⟨a1, rfl, rfl, rfl, w1⟩ := open_int Yba.underlying28 (hval 1 28 v1 rfl rfl) h1
  obtain ⟨a2, rfl, rfl, rfl, w2⟩ := open_string Yba.underlying9 (hval 2 9 v2 rfl rfl) h2
  obtain ⟨a3, rfl, rfl, rfl, w3⟩ := open_string Yba.underlying9 (hval 3 9 v3 rfl rfl) h3
  obtain ⟨a4, rfl, rfl, rfl, w4⟩ := open_string Yba.underlying9 (hval 4 9 v4 rfl rfl) h4
  obtain ⟨a5, rfl, rfl, rfl, w5⟩ := open_int Yba.underlying5 (hval 5 5 v5 rfl rfl) h5
  clear hA0 hval0
  refine (walk z a1 a2 a3 a4 a5 W hz (bounds_u64 w1) (bounds_u8 w5)).mono fun e W' ⟨he, bel⟩ => ?_
  subst he
  exact ⟨_, rfl, _, _, _, [], _, [], hW', trodAll_mk1 (shut_bool Yba.underlying4 _), (trodAll_cons_mk (Below.trod laidOut (by kernel_rfl) (of_decide_eq_true (by kernel_rfl)) k0 bel lt0) (trodAll_cons_mk (shut_int Yba.underlying28 w1) (trodAll_cons_mk (shut_string Yba.underlying9 w2) (trodAll_cons_mk (shut_string Yba.underlying9 w3) (trodAll_cons_mk (shut_string Yba.underlying9 w4) (trodAll_cons_mk (shut_int Yba.underlying5 w5) trodAll_mk0)))))), rfl, bel.frame _, fun h => by cases h⟩

theorem over : Rows.lawS4400CStandInRow.holds Yba.pinned (OpenSpec.ofChange Rows.lawS4400CStandInSpec) :=
  OpenClaim.holds_of_wide 5 Yba.f5 rfl rfl rfl rfl rfl rfl rfl ⟨rfl, rfl, rfl, rfl, rfl⟩ rfl rfl rfl rfl rfl (by kernel_rfl) Yba.func5 (by kernel_rfl)
    (of_decide_eq_true (by kernel_rfl)) (by unfold Func.isWrapper; first | (rw [if_pos (by decide +kernel)]; kernel_rfl) | (rw [if_neg (by decide +kernel)]; exact ⟨rfl, rfl⟩))
    (fun os started H enc _ => lifted os started H enc)

/-- THE STATEMENT -/
theorem proved : Rows.LawS4400CStandInSaid := over
end Go.Proofs.Ybulkcmcg.lawS4400CStandIn
