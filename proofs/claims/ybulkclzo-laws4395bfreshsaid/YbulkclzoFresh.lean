/-
  SEAT b4395a: the walk of LawS4395BFresh (5).
-/
import Derived.Test.YbulkclzoArgs
namespace Go.Proofs.Ybulkclzo.Seq
open Go.ChangeShapes Go.WideShapes Go.ChangeAt Go.RowKit

/-- The two slices that the law itself builds: the call's own, apart from one another. -/
structure ExpAt (w : World) (base : Nat) (v s : Value) (vs ss : List Int) : Prop where
  ownV : w.ownsRow base 21 1 v vs.length (vs.map (Value.int .i32))
  ownS : w.ownsRow base 21 1 s ss.length (ss.map (Value.int .i32))
  apart : v.ownBlock = none ∨ v.ownBlock ≠ s.ownBlock
  low : base ≤ w.heap.size

theorem reads_one (w : World) (x : Int) : Reads (w.alloc (.cells #[.int .i32 x] 21)) (.slice (some ⟨w.heap.size, 0, none⟩) 1 1) [x] :=
  Reads.own (base := w.heap.size) (World.ownsRow_lit w #[.int .i32 x] 1 (Nat.le_refl _) (by unfold maxLen; omega) rfl)

namespace ExpAt
variable {w w1 : World} {base : Nat} {v s v' : Value} {vs ss : List Int} {x : Int} {o : Obj}

theorem start (w : World) (xss : List (List Int)) : ExpAt ((w.alloc (.cells #[] 21)).alloc (.cells #[.int .i32 0] 21)) w.heap.size (.slice (some ⟨w.heap.size, 0, none⟩) 0 0) (.slice (some ⟨w.heap.size + 1, 0, none⟩) 1 1) (vsTo xss 0) (ssTo xss 0) := by
  refine ⟨(World.ownsRow_lit w #[] 0 (Nat.le_refl _) (by unfold maxLen; omega) rfl).alloc _, ?_, .inr (by simp [Value.ownBlock]), by simp only [Go.Deep.nblk_alloc]; omega⟩
  have := World.ownsRow_lit (base := w.heap.size) (e := 21) (size := 1) (w.alloc (.cells #[] 21)) #[.int .i32 0] 1 (by rw [Go.Deep.nblk_alloc]; omega) (by unfold maxLen; omega) rfl
  rw [Go.Deep.nblk_alloc] at this
  exact this

theorem pushV (h : ExpAt w base v s vs ss) (ho : w1.ownsRow base 21 1 v' (vs.length + [x].length) (vs.map (Value.int .i32) ++ [x].map (Value.int .i32))) (hg : (w.alloc o).grownBy w1 v.ownBlock)
    (hat : v'.ownBlock = v.ownBlock ∨ v'.ownBlock = some (w.alloc o).heap.size) : ExpAt w1 base v' s (vs ++ [x]) ss ∧ Below base w w1 := by
  have hSk := (h.ownS.alloc o).kept hg (by
    rcases h.apart with e | e
    · rw [e]; cases s.ownBlock <;> simp
    · exact .inr (fun e' => e e'.symm))
  have hb : Below base w w1 := ((Below.refl _ _).alloc h.low o).grown hg (by rw [Go.Deep.nblk_alloc]; have := h.low; omega) (fun k hk => (own_le h.ownV hk).1)
  refine ⟨⟨by simpa using ho, hSk, ?_, by have := hb.size; have := h.low; omega⟩, hb⟩
  rcases hat with e | e
  · rw [e]; exact h.apart
  · right
    rw [e]
    intro e2
    have := (own_le (h.ownS.alloc o) e2.symm).2
    omega

theorem pushS (h : ExpAt w base v s vs ss) (ho : w1.ownsRow base 21 1 v' (ss.length + [x].length) (ss.map (Value.int .i32) ++ [x].map (Value.int .i32))) (hg : (w.alloc o).grownBy w1 s.ownBlock)
    (hat : v'.ownBlock = s.ownBlock ∨ v'.ownBlock = some (w.alloc o).heap.size) : ExpAt w1 base v v' vs (ss ++ [x]) ∧ Below base w w1 := by
  have hVk := (h.ownV.alloc o).kept hg h.apart
  have hb : Below base w w1 := ((Below.refl _ _).alloc h.low o).grown hg (by rw [Go.Deep.nblk_alloc]; have := h.low; omega) (fun k hk => (own_le h.ownS hk).1)
  refine ⟨⟨hVk, by simpa using ho, ?_, by have := hb.size; have := h.low; omega⟩, hb⟩
  rcases hat with e | e
  · rw [e]; exact h.apart
  · right
    rw [e]
    intro e2
    have := (own_le (h.ownV.alloc o) e2).2
    omega
end ExpAt

set_option maxRecDepth 100000 in
set_option maxHeartbeats 400000 in
theorem fresh_walk (p r o : Value) (xss : List (List Int)) (xs os : List Int) (mode : Int) (w : World) (hp : ReadsAll w p xss) (hr : Reads w r xs) (ho : Reads w o os) (hmo : 0 ≤ mode ∧ mode ≤ 255)
    (b1 : xss.length ≤ 256) (b2 : xs.length ≤ 1024) (b3 : os.length ≤ 1024) :
    Calls Yba.prog 5 #[p, r, o, .int .u8 mode] w fun e w' => e = .returned (.bool true) ∧ Below w.heap.size w w' := by
  obtain ⟨m, hm, he⟩ : ∃ m : Nat, m < 5 ∧ mode % 5 = (m : Int) := ⟨(mode % 5).toNat, by omega, by omega⟩
  have HR : Hid (Reads w r xs) := hr
  have HO : Hid (Reads w o os) := ho
  obtain ⟨n, hn⟩ : ∃ n, xss.length = n := ⟨_, rfl⟩
  have HN : Hid (xss.length = n) := hn
  have HP0 : Hid (ReadsAll w p xss) := hp
  obtain ⟨a, cap, rfl, ha⟩ := hp
  obtain ⟨ra, rcap, rfl, -, -⟩ := hr
  obtain ⟨oa, ocap, rfl, -, -⟩ := ho
  rw [hn] at ha b1
  have HA : Hid (∀ i, i < n → ∃ b off q, a = some ⟨b, off, none⟩ ∧ w.cell? ⟨b, off + i, none⟩ = some q ∧ Reads w q (xss.getD i [])) := ha
  have HP : Hid (ReadsAll w (.slice a n cap) xss) := by rw [← hn]; exact HP0.out
  rw [hn]
  clear ha hn HP0
  go_enter Yba.func5, Yba.ntmps5
  go_wp2
  go_loop [42, 9, 11] (fun i t _ => ∃ k : Nat, k ≤ n ∧ i = .int .i64 k ∧ t = .int .i64 (vsTo xss k).length ∧ (vsTo xss k).length ≤ k * 1024) (fun i _ _ => n - (intOf i).toNat)
  case atStart => exact ⟨0, Nat.zero_le _, rfl, rfl, Nat.le_refl _⟩
  case round =>
    obtain ⟨k, hk, rfl, rfl, hle⟩ := hrel
    by_cases hlt : k < n
    · obtain ⟨b, off, q, rfl, cq, hq⟩ := HA.out k hlt
      obtain ⟨qa, qc, rfl, -, -⟩ := hq
      have HV : Hid (vsTo xss (k + 1) = vsTo xss k ++ xss.getD k []) := vsTo_succ xss k (by rw [HN.out]; exact hlt)
      generalize hL : (xss.getD k []).length = L at *
      have HL : Hid ((xss.getD k []).length = L) := hL
      clear hL
      by_cases hbig : 1024 < L
      · go_wp2
        go_ret
        exact ⟨rfl, Below.refl _ _⟩
      · go_wp2
        go_round
        case rel => exact ⟨k + 1, by omega, by go_num, by rw [HV.out, List.length_append, HL.out]; go_num, by rw [HV.out, List.length_append, HL.out]; omega⟩
        case measure => simp [intOf]; omega
    · have hk' : k = n := by omega
      subst hk'
      have HT : Hid (vsTo xss k = xss.flatten) := by rw [← HN.out]; exact vsTo_all xss
      by_cases hbig : 4096 < (vsTo xss k).length
      · go_wp2
        go_ret
        exact ⟨rfl, Below.refl _ _⟩
      · have HTL : Hid (xss.flatten.length ≤ 4096) := by rw [← HT.out]; exact Nat.le_of_not_lt hbig
        go_wp2_with fail
        refine (item_any m _ _ xs os w hm HR.out HO.out (by omega) (by omega)).mono ?_
        rintro e w1 ⟨rfl, rb, hrb, hI1, hB1⟩
        go_wp2_with fail
        refine (graph_any _ xss w1 (HP.out.under hB1 (Nat.le_refl _)) (by rw [HN.out]; omega) (by have := HTL.out; omega)).mono ?_
        rintro e w2 ⟨rfl, v, s, hG, hB2⟩
        obtain ⟨l1, l2⟩ := hI1.lt
        have hI2 := hI1.under hB2 l1 l2
        have hB02 := hB1.trans (hB2.mono hB1.size)
        clear hI1 hB1 hB2
        have hwk : IntKind.i32.wrap (k : Int) = k := by rw [IntKind.wrap_i32]; omega
        go_wp2_with fail
        have hcon := seqIn_fresh w.heap.size w.heap.size rb m w1.heap.size (w1.heap.size + 1) v s xs xss.flatten (ssTo xss xss.length) w2 hm hI2 hG (Nat.le_refl _) l1 l2 (by have := HTL.out; omega) (by rw [ssTo_length, HN.out]; omega) (by rw [ssTo_length]; omega)
        rw [ssTo_length, HN.out, show (((k + 1 : Nat) : Int) - 1) = (k : Int) from by omega] at hcon
        refine hcon.mono ?_
        clear hcon hG hI2
        rintro e w3 ⟨rfl, hI3, ⟨v', s', hG3⟩, hB3⟩
        have hB03 := hB02.trans hB3
        clear hB02 hB3
        have g1 := hI3.recAt hm
        have t1 : ((k : Int) != (k : Int)) = false := by simp
        go_wp2_with fail
        refine (others_true w.heap.size m _ hm hI3.recs).mono ?_
        rintro e w4 ⟨rfl, rfl⟩
        go_wp2_with fail
        refine (okrel_true w.heap.size rb m _ xs _ hm (by omega) (HR.out.under hB03 (Nat.le_refl _)) (hI3.rel hm) hI3.rels).mono ?_
        rintro e w5 ⟨rfl, hB5⟩
        have HG : Hid (GraphAt w5 w1.heap.size (w1.heap.size + 1) v' s' (xss.flatten ++ xs) (ssTo xss k ++ [((xss.flatten.length + xs.length : Nat) : Int)])) := hG3.under hB5 (Nat.le_refl _)
        obtain ⟨l3, l4⟩ := hI3.lt
        have HI : Hid (ItemIs w5 w.heap.size rb m xs ((k + 1 : Nat) : Int)) := hI3.under hB5 l3 l4
        have hB05 := hB03.trans (hB5.mono hB03.size)
        clear hG3 hI3 hB03 hB5 g1 l3 l4
        have HQR : Hid (∀ i, i < xs.length → ∃ b off, ra = some ⟨b, off, none⟩ ∧ w.cell? ⟨b, off + i, none⟩ = some (.int .i32 (xs.getD i 0))) := by
          obtain ⟨_, _, e, _, h⟩ := HR.out
          cases e
          exact h
        have HLE : Hid (∀ t, (vsTo xss t).length ≤ 4096) := fun t => Nat.le_trans (vsTo_le xss t) HTL.out
        go_wp2_with fail
        go_loopw [100, 17, 18, 19] (fun i V S c wr => ∃ t : Nat, t ≤ k ∧ i = .int .i64 t ∧ c = .int .i32 ((vsTo xss t).length : Int) ∧ ExpAt wr w5.heap.size V S (vsTo xss t) (ssTo xss t) ∧ Below w5.heap.size w5 wr) (fun i _ _ _ _ => k - (intOf i).toNat)
        case atStart => exact ⟨0, Nat.zero_le _, rfl, rfl, ExpAt.start w5 xss, ((Below.refl _ _).alloc (Nat.le_refl _) _).alloc (by rw [Go.Deep.nblk_alloc]; omega) _⟩
        case round =>
          obtain ⟨t, ht, rfl, rfl, hE, hbel⟩ := hrel
          obtain ⟨wo, hwo⟩ : ∃ wo : World, wo = wr := ⟨wr, rfl⟩
          subst hwo
          have HE : Hid (ExpAt wo w5.heap.size u17 u18 (vsTo xss t) (ssTo xss t)) := hE
          have hlt5 := hbel.size
          clear hE
          by_cases htk : t < k
          · obtain ⟨b, off, q, rfl, cq, hq⟩ := HA.out t htk
            have d1 := (hB05.cell (World.block_lt_of_cell? _ _ cq)).trans cq
            have d2 := (hbel.cell (World.block_lt_of_cell? _ _ d1)).trans d1
            obtain ⟨qa, qc, rfl, -, hqc⟩ := hq
            have HV : Hid (vsTo xss (t + 1) = vsTo xss t ++ xss.getD t []) := vsTo_succ xss t (by rw [HN.out]; exact htk)
            have hle1 := HLE.out (t + 1)
            rw [HV.out, List.length_append] at hle1
            obtain ⟨ys, hys⟩ : ∃ ys, xss.getD t [] = ys := ⟨_, rfl⟩
            rw [hys] at HV hle1 hqc d1 d2 cq
            clear hys d1 cq
            have HQ : Hid (∀ i, i < ys.length → ∃ b off, qa = some ⟨b, off, none⟩ ∧ w.cell? ⟨b, off + i, none⟩ = some (.int .i32 (ys.getD i 0))) := hqc
            clear hqc
            go_wp2_with fail
            go_loopw [106, 17, 19] (fun j V c wi => ∃ u : Nat, u ≤ ys.length ∧ j = .int .i64 u ∧ c = .int .i32 (((vsTo xss t).length + u : Nat) : Int) ∧ ExpAt wi w5.heap.size V u18 (vsTo xss t ++ ys.take u) (ssTo xss t) ∧ Below w5.heap.size w5 wi) (fun j _ _ _ => ys.length - (intOf j).toNat)
            case atStart => exact ⟨0, Nat.zero_le _, rfl, rfl, by simpa using HE.out, hbel⟩
            case round =>
              obtain ⟨u, hu, rfl, rfl, hEi, hbi⟩ := hrel
              have HEI : Hid (ExpAt wr w5.heap.size u17 u18 (vsTo xss t ++ ys.take u) (ssTo xss t)) := hEi
              have hlti := hbi.size
              have hlu : (vsTo xss t ++ ys.take u).length = (vsTo xss t).length + u := by rw [List.length_append, List.length_take]; omega
              have HLU : Hid ((vsTo xss t ++ ys.take u).length = (vsTo xss t).length + u) := hlu
              clear hEi hlu d2
              by_cases huL : u < ys.length
              · obtain ⟨b', off', rfl, c1⟩ := HQ.out u huL
                obtain ⟨x, hx⟩ : ∃ x, ys.getD u 0 = x := ⟨_, rfl⟩
                rw [hx] at c1
                have HX : Hid (ys.take (u + 1) = ys.take u ++ [x]) := by rw [List.take_succ_eq_append_getElem huL, ← hx, List.getD_eq_getElem?_getD, List.getElem?_eq_getElem huL]; rfl
                clear hx
                have c2 := (hB05.cell (World.block_lt_of_cell? _ _ c1)).trans c1
                have c3 := (hbi.cell (World.block_lt_of_cell? _ _ c2)).trans c2
                clear c1 c2
                go_wp2_with (at_builtin; go_must (refine wpList_append_reads _ rfl (.tmp 110) (.tmp 112) rfl w5.heap.size u17 (vsTo xss t ++ ys.take u).length _ (by rfl) (HEI.out.ownV.alloc _) _ [x] (by rfl) (reads_one wr x) (by rw [HLU.out]; simp; omega) (by rw [Go.Deep.nblk_alloc]; omega) ?_; intro V1 w7 ho hg hat; obtain ⟨hE2, hb2⟩ := HEI.out.pushV ho hg hat; have HE2 : Hid (ExpAt w7 w5.heap.size V1 u18 (vsTo xss t ++ ys.take u ++ [x]) (ssTo xss t)) := hE2; clear ho hg hat hE2))
                go_roundw
                case rel => exact ⟨u + 1, by omega, by go_num, by go_num, by rw [HX.out, ← List.append_assoc]; exact HE2.out, hbi.trans hb2⟩
                case measure => simp [intOf]; omega
              · have hu' : u = ys.length := by omega
                obtain ⟨N, hN⟩ : ∃ N, (vsTo xss t).length + u = N := ⟨_, rfl⟩
                have HNN : Hid ((vsTo xss (t + 1)).length = N) := by rw [HV.out, List.length_append, ← hu']; exact hN
                have hNb : N ≤ 4096 := by omega
                simp only [hN]
                have HEX : Hid (ExpAt wr w5.heap.size u17 u18 (vsTo xss (t + 1)) (ssTo xss t)) := by rw [HV.out]; have h := HEI.out; rw [hu', List.take_length] at h; exact h
                clear hu' hN HLU HEI
                have hst : (ssTo xss t).length + 1 ≤ 1000000 := by rw [ssTo_length]; omega
                go_wp2_with (at_builtin; go_must (refine wpList_append_reads _ rfl (.tmp 117) (.tmp 119) rfl w5.heap.size u18 (ssTo xss t).length _ (by rfl) (HEX.out.ownS.alloc _) _ [(N : Int)] (by rfl) (reads_one wr N) (by simpa using hst) (by rw [Go.Deep.nblk_alloc]; omega) ?_; intro S1 w7 ho hg hat; obtain ⟨hE2, hb2⟩ := HEX.out.pushS ho hg hat; have HE2 : Hid (ExpAt w7 w5.heap.size u17 S1 (vsTo xss (t + 1)) (ssTo xss t ++ [(N : Int)])) := hE2; clear ho hg hat hE2))
                go_roundw
                case rel => exact ⟨t + 1, by omega, by go_num, by rw [HNN.out], by rw [ssTo_succ, HNN.out]; exact HE2.out, hbi.trans hb2⟩
                case measure => simp [intOf]; omega
          · have ht' : t = k := by omega
            subst ht'
            obtain ⟨F, hF⟩ : ∃ F, xss.flatten.length = F := ⟨_, rfl⟩
            have HF : Hid (xss.flatten.length = F) := hF
            have hFb : F ≤ 4096 := by have := HTL.out; omega
            have HEF : Hid (ExpAt wo w5.heap.size u17 u18 xss.flatten (ssTo xss t)) := by have h := HE.out; rw [HT.out] at h; exact h
            have hcF : ((vsTo xss t).length : Int) = (F : Int) := by rw [HT.out, hF]
            simp only [hcF]
            clear hF hcF HE
            go_wp2_with fail
            go_loopw [124, 17, 19] (fun j V c wi => ∃ u : Nat, u ≤ xs.length ∧ j = .int .i64 u ∧ c = .int .i32 ((F + u : Nat) : Int) ∧ ExpAt wi w5.heap.size V u18 (xss.flatten ++ xs.take u) (ssTo xss t) ∧ Below w5.heap.size w5 wi) (fun j _ _ _ => xs.length - (intOf j).toNat)
            case atStart => exact ⟨0, Nat.zero_le _, rfl, rfl, by simpa using HEF.out, hbel⟩
            case round =>
              obtain ⟨u, hu, rfl, rfl, hEi, hbi⟩ := hrel
              have HEI : Hid (ExpAt wr w5.heap.size u17 u18 (xss.flatten ++ xs.take u) (ssTo xss t)) := hEi
              have hlti := hbi.size
              have HLU : Hid ((xss.flatten ++ xs.take u).length = F + u) := by have h := HF.out; show (xss.flatten ++ xs.take u).length = F + u; rw [List.length_append, List.length_take]; omega
              clear hEi
              by_cases huL : u < xs.length
              · obtain ⟨b', off', rfl, c1⟩ := HQR.out u huL
                obtain ⟨x, hx⟩ : ∃ x, xs.getD u 0 = x := ⟨_, rfl⟩
                rw [hx] at c1
                have HX : Hid (xs.take (u + 1) = xs.take u ++ [x]) := by rw [List.take_succ_eq_append_getElem huL, ← hx, List.getD_eq_getElem?_getD, List.getElem?_eq_getElem huL]; rfl
                clear hx
                have c2 := (hB05.cell (World.block_lt_of_cell? _ _ c1)).trans c1
                have c3 := (hbi.cell (World.block_lt_of_cell? _ _ c2)).trans c2
                clear c1 c2
                go_wp2_with (at_builtin; go_must (refine wpList_append_reads _ rfl (.tmp 128) (.tmp 130) rfl w5.heap.size u17 (xss.flatten ++ xs.take u).length _ (by rfl) (HEI.out.ownV.alloc _) _ [x] (by rfl) (reads_one wr x) (by rw [HLU.out]; simp; omega) (by rw [Go.Deep.nblk_alloc]; omega) ?_; intro V1 w7 ho hg hat; obtain ⟨hE2, hb2⟩ := HEI.out.pushV ho hg hat; have HE2 : Hid (ExpAt w7 w5.heap.size V1 u18 (xss.flatten ++ xs.take u ++ [x]) (ssTo xss t)) := hE2; clear ho hg hat hE2))
                go_roundw
                case rel => exact ⟨u + 1, by omega, by go_num, by go_num, by rw [HX.out, ← List.append_assoc]; exact HE2.out, hbi.trans hb2⟩
                case measure => simp [intOf]; omega
              · have hu' : u = xs.length := by omega
                subst hu'
                obtain ⟨N, hN⟩ : ∃ N, F + xs.length = N := ⟨_, rfl⟩
                have HNN : Hid (xss.flatten.length + xs.length = N) := by rw [HF.out]; exact hN
                have hNb : N ≤ 6000 := by omega
                simp only [hN]
                have HEX : Hid (ExpAt wr w5.heap.size u17 u18 (xss.flatten ++ xs) (ssTo xss t)) := by have h := HEI.out; rw [List.take_length] at h; exact h
                clear hN HLU HEI
                have hst : (ssTo xss t).length + 1 ≤ 1000000 := by rw [ssTo_length]; omega
                go_wp2_with (at_builtin; go_must (refine wpList_append_reads _ rfl (.tmp 135) (.tmp 137) rfl w5.heap.size u18 (ssTo xss t).length _ (by rfl) (HEX.out.ownS.alloc _) _ [(N : Int)] (by rfl) (reads_one wr N) (by simpa using hst) (by rw [Go.Deep.nblk_alloc]; omega) ?_; intro S1 w7 ho hg hat; obtain ⟨hE2, hb2⟩ := HEX.out.pushS ho hg hat; have HE2 : Hid (ExpAt w7 w5.heap.size u17 S1 (xss.flatten ++ xs) (ssTo xss t ++ [(N : Int)])) := hE2; have hb7 := hbi.trans hb2; have hG7 := HG.out.under hb7 (Nat.le_refl _); rw [HNN.out] at hG7; have HG7 : Hid (GraphAt w7 w1.heap.size (w1.heap.size + 1) v' s' (xss.flatten ++ xs) (ssTo xss t ++ [(N : Int)])) := hG7; have e1 := hG7.cell1; have e2 := hG7.cell2; clear ho hg hat hE2 hG7))
                have HL1 : Hid ((xss.flatten ++ xs).length ≤ 100000) := by have h := HNN.out; show (xss.flatten ++ xs).length ≤ 100000; rw [List.length_append]; omega
                have HL2 : Hid ((ssTo xss t ++ [(N : Int)]).length ≤ 100000) := by show (ssTo xss t ++ [(N : Int)]).length ≤ 100000; rw [List.length_append, ssTo_length]; simp; omega
                have hwn : wrap32 (((t + 1 : Nat) : Int) - 1) = (t : Int) := by (unfold wrap32; omega)
                have HC : Hid (∀ q, Calls Yba.prog 11 #[.pointer (some ⟨w.heap.size, 0, none⟩), .pointer (some ⟨w1.heap.size + 1, 0, none⟩), .int .u8 m] (w7.drewN q) fun e w' => e = .returned (.int .i32 (t : Int)) ∧ w' = w7.drewN q) := by
                  intro q
                  obtain ⟨x1, x2⟩ := HI.out.lt
                  have hcon := seqIn_known w.heap.size m (.pointer (some ⟨w1.heap.size + 1, 0, none⟩)) ((t + 1 : Nat) : Int) (w7.drewN q) hm (by omega) (((HI.out.under hb7 x1 x2).drewN q).recAt hm)
                  rw [hwn] at hcon
                  exact hcon
                have g1 := (HI.out.under hb7 (HI.out.lt).1 (HI.out.lt).2).recAt hm
                have heq : ∀ (w : World) (a : Option Addr) (n c : Nat), (binOp .eql 49 (.slice a n c) (.slice none 0 0)).run Yba.prog w = .ok (.bool a.isNone) w := fun w a n c => Lib.run_eql_slice_nil w 49 82 a n c 0 0 Yba.underlying49
                have e0 := HG7.out.cell0
                clear hwn
                refine (equal_same v' u17 (xss.flatten ++ xs) _ (Reads.own HG7.out.ownV) (Reads.own HE2.out.ownV) HL1.out).mono ?_
                rintro e w8 ⟨rfl, q1, rfl⟩
                go_wp2_with fail
                refine (equal_same s' S1 (ssTo xss t ++ [(N : Int)]) _ ((Reads.own HG7.out.ownS).drewN q1) ((Reads.own HE2.out.ownS).drewN q1) HL2.out).mono ?_
                rintro e w9 ⟨rfl, q2, rfl⟩
                go_wp2_with fail
                refine (HC.out (q1 + q2)).mono ?_
                rintro e w10 ⟨rfl, rfl⟩
                have t1 : ((t : Int) != (t : Int)) = false := by simp
                go_wp2_with fail
                refine (equal_same v' u17 (xss.flatten ++ xs) _ ((Reads.own HG7.out.ownV).drewN (q1 + q2)) ((Reads.own HE2.out.ownV).drewN (q1 + q2)) HL1.out).mono ?_
                rintro e w11 ⟨rfl, q3, rfl⟩
                go_wp2_with fail
                refine (equal_same s' S1 (ssTo xss t ++ [(N : Int)]) _ ((Reads.own HG7.out.ownS).drewN _) ((Reads.own HE2.out.ownS).drewN _) HL2.out).mono ?_
                rintro e w12 ⟨rfl, q4, rfl⟩
                go_wp2_with fail
                go_ret
                exact ⟨rfl, below_drewN (hB05.trans (hb7.mono hB05.size)) _⟩

end Go.Proofs.Ybulkclzo.Seq
