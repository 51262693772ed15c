/-
  SEAT b4395a: the walk of LawS4395BKnown (6).
-/
import Derived.Test.YbulkclzoSeqIn
namespace Go.Proofs.Ybulkclzo.Seq
open Go.ChangeShapes Go.WideShapes Go.ChangeAt Go.RowKit

theorem ReadsAll.under {w w' : World} {v : Value} {xss : List (List Int)} (h : ReadsAll w v xss) {B : Nat} (hb : Below B w w') (hB : w.heap.size ≤ B) : ReadsAll w' v xss := by
  obtain ⟨a, cap, e, h⟩ := h
  refine ⟨a, cap, e, fun i hi => ?_⟩
  obtain ⟨b, off, q, e2, hc, hq⟩ := h i hi
  exact ⟨b, off, q, e2, (hb.cell (Nat.lt_of_lt_of_le (World.block_lt_of_cell? _ _ hc) hB)).trans hc, hq.under hb hB⟩

theorem Reads.drewN {w : World} {v : Value} {xs : List Int} (h : Reads w v xs) (n : Nat) : Reads (w.drewN n) v xs := h

theorem setItem {w w1 : World} {rb m : Nat} {xs : List Int} (hm : m < 5) (hi : ItemIs w1 w.heap.size rb m xs 0) (hb : Below w.heap.size w w1) (c : Int) :
    ItemIs (w1.setCell ⟨w.heap.size, 15 + m, none⟩ (.int .i32 c)) w.heap.size rb m xs c ∧ Below w.heap.size w (w1.setCell ⟨w.heap.size, 15 + m, none⟩ (.int .i32 c)) :=
  ⟨hi.store hm c, hb.setCell (Nat.le_refl _) _⟩

set_option maxRecDepth 100000 in
set_option maxHeartbeats 4000000 in
theorem known_walk (p r : Value) (xss : List (List Int)) (xs : List Int) (preset c mode : Int) (w : World) (hp : ReadsAll w p xss) (hr : Reads w r xs) (hpc : (preset = 0 ∧ c = 1) ∨ (preset ≠ 0 ∧ c = preset)) (hmo : 0 ≤ mode ∧ mode ≤ 255) (hc : c ≠ 0)
    (b1 : xss.length ≤ 256) (b2 : xs.length ≤ 1024) :
    Calls Yba.prog 6 #[p, r, .int .i32 preset, .int .u8 mode] w fun e w' => e = .returned (.bool true) ∧ Below w.heap.size w w' := by
  obtain ⟨m, hm, he⟩ : ∃ m : Nat, m < 5 ∧ mode % 5 = (m : Int) := ⟨(mode % 5).toNat, by omega, by omega⟩
  have HP : Hid (ReadsAll w p xss) := hp
  have HR : Hid (Reads w r xs) := hr
  have HPC : Hid ((preset = 0 ∧ c = 1) ∨ (preset ≠ 0 ∧ c = preset)) := hpc
  have HNC : Hid (c ≠ 0) := hc
  obtain ⟨a, cap, rfl, ha⟩ := hp
  obtain ⟨ra, rcap, rfl, _, _⟩ := hr
  obtain ⟨n, hn⟩ : ∃ n, xss.length = n := ⟨_, rfl⟩
  have HN : Hid (xss.length = n) := hn
  rw [hn] at ha b1
  have HA : Hid (∀ i, i < n → ∃ b off q, a = some ⟨b, off, none⟩ ∧ w.cell? ⟨b, off + i, none⟩ = some q ∧ Reads w q (xss.getD i [])) := ha
  rw [hn]
  clear ha hn hpc hc
  go_enter Yba.func6, Yba.ntmps6
  go_wp2
  go_loop [28, 9, 11] (fun i t _ => ∃ k : Nat, k ≤ n ∧ i = .int .i64 k ∧ t = .int .i64 (vsTo xss k).length ∧ (vsTo xss k).length ≤ k * 1024) (fun i _ _ => n - (intOf i).toNat)
  case atStart => exact ⟨0, Nat.zero_le _, rfl, rfl, Nat.le_refl _⟩
  case round =>
    obtain ⟨k, hk, rfl, rfl, hle⟩ := hrel
    by_cases hlt : k < n
    · obtain ⟨b, off, q, rfl, cq, hq⟩ := HA.out k hlt
      obtain ⟨qa, qc, rfl, _, _⟩ := hq
      have HV : Hid (vsTo xss (k + 1) = vsTo xss k ++ xss.getD k []) := vsTo_succ xss k (by rw [HN.out]; exact hlt)
      generalize hL : (xss.getD k []).length = L at *
      have HL : Hid ((xss.getD k []).length = L) := hL
      clear hL
      by_cases hbig : 1024 < L
      · go_wp2
        go_ret
        exact ⟨rfl, Below.refl _ _⟩
      · go_wp2
        go_round
        case rel => exact ⟨k + 1, by omega, by go_num, by rw [HV.out, List.length_append, HL.out]; go_num, by rw [HV.out, List.length_append, HL.out]; omega⟩
        case measure => simp [intOf]; omega
    · have hk' : k = n := by omega
      subst hk'
      have HT : Hid (vsTo xss k = xss.flatten) := by rw [← HN.out]; exact vsTo_all xss
      by_cases hbig : 4096 < (vsTo xss k).length
      · go_wp2
        go_ret
        exact ⟨rfl, Below.refl _ _⟩
      · have HTL : Hid (xss.flatten.length ≤ 4096) := by rw [← HT.out]; exact Nat.le_of_not_lt hbig
        rcases HPC.out with ⟨rfl, rfl⟩ | ⟨hz, rfl⟩
        · skip
          go_wp2_with fail
          refine (item_any m _ _ xs xs w hm HR.out HR.out (by omega) (by omega)).mono ?_
          rintro e w1 ⟨rfl, rb, hrb, hI, hB⟩
          have g1 := hI.recAt hm
          have g2 := hI.frozen (15 + m)
          obtain ⟨hI1, hB1⟩ := setItem hm hI hB 1
          clear hI hB
          go_wp2_with fail
          generalize w1.setCell ⟨w.heap.size, 15 + m, none⟩ (.int .i32 1) = W1 at *
          clear g1 g2
          have hpk := HP.out.under hB1 (Nat.le_refl _)
          rw [HN.out] at hpk
          refine (graph_any _ xss W1 hpk (by rw [HN.out]; omega) (by have := HTL.out; omega)).mono ?_
          rintro e w2 ⟨rfl, v, s, hG, hB2⟩
          clear hpk
          obtain ⟨l1, l2⟩ := hI1.lt
          have hI2 := hI1.under hB2 l1 l2
          have hB02 := hB1.trans (hB2.mono hB1.size)
          clear hI1 hB2 hB1
          have c1 := hG.cell1
          go_wp2_with fail
          refine (clone_any v xss.flatten w2 (Reads.own hG.ownV) (by have := HTL.out; omega)).mono ?_
          rintro e w3 ⟨u, rfl, hU, hB3⟩
          have hG3 := hG.under hB3 (Nat.le_refl _)
          obtain ⟨l1, l2⟩ := hI2.lt
          have hI3 := hI2.under hB3 l1 l2
          have hB03 := hB02.trans (hB3.mono hB02.size)
          clear hG hI2 c1 hB02 hB3
          have c2 := hG3.cell2
          go_wp2_with fail
          refine (clone_any s (ssTo xss xss.length) w3 (Reads.own hG3.ownS) (by rw [ssTo_length, HN.out]; omega)).mono ?_
          rintro e w4 ⟨u2, rfl, hU2, hB4⟩
          have hG4 := hG3.under hB4 (Nat.le_refl _)
          have hU4 := hU.under hB4 (Nat.le_refl _)
          obtain ⟨l1, l2⟩ := hI3.lt
          have hI4 := hI3.under hB4 l1 l2
          have hB04 := hB03.trans (hB4.mono hB03.size)
          clear hG3 hI3 c2 hB03 hB4 hU
          go_wp2_with fail
          refine (seqIn_known w.heap.size m _ 1 w4 hm HNC.out (hI4.recAt hm)).mono ?_
          rintro e w5 ⟨rfl, rfl⟩
          have g1 := hI4.recAt hm
          have hw0 : wrap32 0 = 0 := by (unfold wrap32; omega)
          have hw1 : wrap32 (1 - 1) = 0 := by (unfold wrap32; omega)
          have t2 : ((1 : Int) != 1) = false := by simp
          go_wp2_with fail
          refine (others_true w.heap.size m _ hm hI4.recs).mono ?_
          rintro e w6 ⟨rfl, rfl⟩
          go_wp2_with fail
          refine (okrel_true w.heap.size rb m _ xs _ hm (by omega) (HR.out.under hB04 (Nat.le_refl _)) (hI4.rel hm) hI4.rels).mono ?_
          rintro e w7 ⟨rfl, hB7⟩
          have hG7 := hG4.under hB7 (Nat.le_refl _)
          have hU7 := hU4.under hB7 (Nat.le_refl _)
          have hV7 := hU2.under hB7 (Nat.le_refl _)
          have hB07 := hB04.trans (hB7.mono hB04.size)
          clear hG4 hU4 hU2 hB04 hB7 hI4 g1
          have c1 := hG7.cell1
          have c2 := hG7.cell2
          go_wp2_with fail
          refine (equal_same v u xss.flatten _ (Reads.own hG7.ownV) hU7 (by have := HTL.out; omega)).mono ?_
          rintro e w8 ⟨rfl, q1, rfl⟩
          go_wp2_with fail
          refine (equal_same s u2 (ssTo xss xss.length) _ ((Reads.own hG7.ownS).drewN q1) (hV7.drewN q1) (by rw [ssTo_length, HN.out]; omega)).mono ?_
          rintro e w9 ⟨rfl, q2, rfl⟩
          go_wp2_with fail
          go_ret
          exact ⟨rfl, below_drewN hB07 _⟩
        · have hz' : (c == 0) = false := by rw [beq_eq_false_iff_ne]; exact hz
          go_wp2_with fail
          refine (item_any m _ _ xs xs w hm HR.out HR.out (by omega) (by omega)).mono ?_
          rintro e w1 ⟨rfl, rb, hrb, hI, hB⟩
          have g1 := hI.recAt hm
          have g2 := hI.frozen (15 + m)
          obtain ⟨hI1, hB1⟩ := setItem hm hI hB c
          clear hI hB
          go_wp2_with fail
          generalize w1.setCell ⟨w.heap.size, 15 + m, none⟩ (.int .i32 c) = W1 at *
          clear g1 g2
          have hpk := HP.out.under hB1 (Nat.le_refl _)
          rw [HN.out] at hpk
          refine (graph_any _ xss W1 hpk (by rw [HN.out]; omega) (by have := HTL.out; omega)).mono ?_
          rintro e w2 ⟨rfl, v, s, hG, hB2⟩
          clear hpk
          obtain ⟨l1, l2⟩ := hI1.lt
          have hI2 := hI1.under hB2 l1 l2
          have hB02 := hB1.trans (hB2.mono hB1.size)
          clear hI1 hB2 hB1
          have c1 := hG.cell1
          go_wp2_with fail
          refine (clone_any v xss.flatten w2 (Reads.own hG.ownV) (by have := HTL.out; omega)).mono ?_
          rintro e w3 ⟨u, rfl, hU, hB3⟩
          have hG3 := hG.under hB3 (Nat.le_refl _)
          obtain ⟨l1, l2⟩ := hI2.lt
          have hI3 := hI2.under hB3 l1 l2
          have hB03 := hB02.trans (hB3.mono hB02.size)
          clear hG hI2 c1 hB02 hB3
          have c2 := hG3.cell2
          go_wp2_with fail
          refine (clone_any s (ssTo xss xss.length) w3 (Reads.own hG3.ownS) (by rw [ssTo_length, HN.out]; omega)).mono ?_
          rintro e w4 ⟨u2, rfl, hU2, hB4⟩
          have hG4 := hG3.under hB4 (Nat.le_refl _)
          have hU4 := hU.under hB4 (Nat.le_refl _)
          obtain ⟨l1, l2⟩ := hI3.lt
          have hI4 := hI3.under hB4 l1 l2
          have hB04 := hB03.trans (hB4.mono hB03.size)
          clear hG3 hI3 c2 hB03 hB4 hU
          go_wp2_with fail
          refine (seqIn_known w.heap.size m _ c w4 hm HNC.out (hI4.recAt hm)).mono ?_
          rintro e w5 ⟨rfl, rfl⟩
          have g1 := hI4.recAt hm
          have t1 : (wrap32 (c - 1) != wrap32 (c - 1)) = false := by simp
          have t2 : ((c : Int) != c) = false := by simp
          go_wp2_with fail
          refine (others_true w.heap.size m _ hm hI4.recs).mono ?_
          rintro e w6 ⟨rfl, rfl⟩
          go_wp2_with fail
          refine (okrel_true w.heap.size rb m _ xs _ hm (by omega) (HR.out.under hB04 (Nat.le_refl _)) (hI4.rel hm) hI4.rels).mono ?_
          rintro e w7 ⟨rfl, hB7⟩
          have hG7 := hG4.under hB7 (Nat.le_refl _)
          have hU7 := hU4.under hB7 (Nat.le_refl _)
          have hV7 := hU2.under hB7 (Nat.le_refl _)
          have hB07 := hB04.trans (hB7.mono hB04.size)
          clear hG4 hU4 hU2 hB04 hB7 hI4 g1
          have c1 := hG7.cell1
          have c2 := hG7.cell2
          go_wp2_with fail
          refine (equal_same v u xss.flatten _ (Reads.own hG7.ownV) hU7 (by have := HTL.out; omega)).mono ?_
          rintro e w8 ⟨rfl, q1, rfl⟩
          go_wp2_with fail
          refine (equal_same s u2 (ssTo xss xss.length) _ ((Reads.own hG7.ownS).drewN q1) (hV7.drewN q1) (by rw [ssTo_length, HN.out]; omega)).mono ?_
          rintro e w9 ⟨rfl, q2, rfl⟩
          go_wp2_with fail
          go_ret
          exact ⟨rfl, below_drewN hB07 _⟩

end Go.Proofs.Ybulkclzo.Seq
