/-
  SEAT b4400a: the walk of LawS4400CStandIn (5), case A.
-/
import Derived.Test.YbulkcmcgStand
namespace Go.Proofs.Ybulkcmcg.Sec
open Go.ChangeShapes Go.WideShapes Go.ChangeAt Go.RowKit

set_option maxRecDepth 100000 in
set_option maxHeartbeats 2000000 in
theorem stand_walkA (z : Nat → Nat) (tok : Int) (name client secret : ByteArray) (pick : Nat) (w : World) (hz : ∀ i, z i ≤ 255) (h0 : 0 ≤ tok) (h1 : tok ≤ 18446744073709551615) (hp : pick ≤ 255) (hk3 : pick % 3 = 0)
    (b1 : name.size ≤ 4096) (b2 : client.size ≤ 4096) (b3 : secret.size ≤ 4096) :
    Calls Yba.prog 5 #[.agg (arr z), .int .u64 tok, .string name, .string client, .string secret, .int .u8 (pick : Int)] w fun e w' => e = .returned (.bool true) ∧ Below w.heap.size w w' := by
  obtain ⟨i0, hi0, hz0, hz1, hz2⟩ := info_parts info5
  have HT : Hid (0 ≤ tok ∧ tok ≤ 18446744073709551615) := ⟨h0, h1⟩
  have hr0 : (w.alloc (.cells (arr z) 60)).rowIs w.heap.size 60 32 (fun i => .int .u8 (z i : Int)) := by
    have := World.rowIs_alloc w (arr z) 60 (fun i => .int .u8 (z i : Int)) (fun i hi => arr_at z i (by rw [arr_size] at hi; exact hi))
    rw [arr_size] at this
    exact this
  have HI : Hid ((Yba.prog.info? 60).map (·.size) = some (arr z).toList.length) := by
    have e : (arr z).toList.length = 32 := by rw [Array.length_toList]; exact arr_size z
    rw [e]; exact info60
  have harr : (arr z).size = 32 := arr_size z
  have HR0 : Hid ((w.alloc (.cells (arr z) 60)).rowIs w.heap.size 60 32 (fun i => .int .u8 (z i : Int))) := hr0
  clear h0 h1 hr0
  go_enter Yba.func5, Yba.ntmps5
  go_wp2_with (refine wpList_load_mid (by rfl) 60 (.tmp 6) (by rfl) w.heap.size 0 (by rfl) (arr z).toList _ (arr_range _ _ z HR0.out) Yba.underlying60 rfl HI.out ?_)
  refine (chex_any z _ hz).mono ?_
  rintro e w1 ⟨rfl, hb1⟩
  rw [Go.Deep.nblk_alloc] at hb1
  have HR1 : Hid (w1.rowIs w.heap.size 60 32 (fun i => .int .u8 (z i : Int))) := HR0.out.of_block (hb1.block _ (by omega))
  have hbw1 : Below w.heap.size w w1 := ((Below.refl _ _).alloc (Nat.le_refl _) _).trans (hb1.mono (by omega))
  obtain ⟨wt, hwt⟩ : ∃ wt, strOfNums (hexL z 16) = wt := ⟨_, rfl⟩
  have HWT : Hid (strOfNums (hexL z 16) = wt) := hwt
  have hws : wt.size = 32 := by rw [← hwt, strOfNums_size, hexL_length]
  rw [hwt]
  clear hwt hb1 HR0
  have hm : (pick : Int) % 3 = 0 := by omega
  clear hk3
  have hhq := hash_eq z
  unfold hash0 at hhq
  obtain ⟨f2, hst2⟩ := st_made w w1 z Yba.zeroCells69 zero69_size hbw1
  have HTH : Hid (((w1.alloc (.cells (#[.slice none 0 0, .int .i64 0] ++ arr z) 64)).alloc (.cells Yba.zeroCells69 69)).there (w1.heap.size + 1) 0 (Yba.zeroCells69.setIfInBounds 1 (.iface 62 (.pointer (some ⟨w1.heap.size, 0, none⟩)))).size) := there_made w1 z Yba.zeroCells69 zero69_size _
  have HI9 : Hid ((Yba.prog.info? 69).map (·.size) = some (Yba.zeroCells69.setIfInBounds 1 (.iface 62 (.pointer (some ⟨w1.heap.size, 0, none⟩)))).size) := by rw [mac_size _ _ zero69_size]; exact info69
  have HON : Hid ((Yba.zeroCells69.setIfInBounds 1 (.iface 62 (.pointer (some ⟨w1.heap.size, 0, none⟩)))).all (·.oneCell') = true) := mac_one _ _ zero69_one rfl
  obtain ⟨HC, hHC⟩ : ∃ HC, #[.slice none 0 0, .int .i64 0] ++ arr z = HC := ⟨_, rfl⟩
  rw [hHC] at hhq hst2 HTH
  have HST : Hid (St _ w.heap.size (w1.heap.size + 1) w1.heap.size f2 (fun i => (z i : Int)) 0 []) := hst2
  clear hst2 hHC
  go_wp2_with (first | (show wpList _ _ _ (Oper.mk (some 64) _ _ _ _ _ :: _) _ _; refine wpList_load_mid (by rfl) 60 (.tmp 6) (by rfl) w.heap.size 0 (by rfl) (arr z).toList _ (arr_range _ _ z HR1.out) Yba.underlying60 rfl HI.out ?_) | (show wpList _ _ _ (Oper.mk none (Op.store 69 _ _) _ _ _ _ :: _) _ _; refine wpList_store_mid (by rfl) 69 (.tmp 18) (.tmp 69) (by rfl) (w1.heap.size + 1) 0 (Yba.zeroCells69.setIfInBounds 1 (.iface 62 (.pointer (some ⟨w1.heap.size, 0, none⟩)))) (by rfl) (by rfl) HTH.out HI9.out HON.out ?_))
  have hbw2 : Below w.heap.size w (((w1.alloc (.cells HC 64)).alloc (.cells Yba.zeroCells69 69)).setCells (w1.heap.size + 1) 0 (Yba.zeroCells69.toList.set 1 (.iface 62 (.pointer (some ⟨w1.heap.size, 0, none⟩))))) := below_setCells (by have := hbw1.size; omega) _ _ _ ((hbw1.alloc hbw1.size _).alloc (by rw [Go.Deep.nblk_alloc]; have := hbw1.size; omega) _)
  generalize ((w1.alloc (.cells HC 64)).alloc (.cells Yba.zeroCells69 69)).setCells (w1.heap.size + 1) 0 (Yba.zeroCells69.toList.set 1 (.iface 62 (.pointer (some ⟨w1.heap.size, 0, none⟩)))) = W2 at *
  refine (match_any w.heap.size (w1.heap.size + 1) w1.heap.size f2 z [] tok name client wt W2 HST.out hz HT.out.1 HT.out.2 b1 b2 (by omega)).mono ?_
  rintro e w3 ⟨rfl, ⟨f3, hs3⟩, hb3⟩
  have hgt : eqB (hexA z) (byteAt wt) wt.size = true := by rw [sec_is, HWT.out]; simp
  rw [hgt]
  clear hgt
  have HS3 : Hid (St w3 w.heap.size (w1.heap.size + 1) w1.heap.size f3 (fun i => (z i : Int)) 1 (fed tok name client)) := hs3
  have hbw3 : Below w.heap.size w w3 := hbw2.trans hb3
  clear hs3 hb3 HTH HI9 HON HST hhq
  obtain ⟨N, hN⟩ : ∃ N, 9 + name.size + client.size = N := ⟨_, rfl⟩
  go_wp2_with (at_make; go_must (refine wpList_make_own _ rfl _ _ 22 rfl w3.heap.size 5 i0 _ 1 Yba.underlying22 hi0 hz0 hz1 .i64 .i64 _ N rfl rfl (by omega) (by rw [hz2]; omega) (by unfold maxLen; omega) (Nat.le_refl _) ?_; intro w4 ho4 hg4))
  have hb34 : Below w3.heap.size w3 w4 := (Below.refl _ _).grown hg4 (Nat.le_refl _) (fun k hk => by cases hk)
  clear hN hg4
  go_loopw [21, 20] (fun i v wr => ∃ k : Nat, k ≤ 8 ∧ i = .int .i64 k ∧ wr.ownsRow w3.heap.size 5 1 v k (((tokL tok).take k).map (Value.int .u8)) ∧ Below w3.heap.size w3 wr) (fun i _ _ => 8 - (intOf i).toNat)
  case atStart => exact ⟨0, Nat.zero_le _, rfl, ho4, hb34⟩
  case round =>
    clear ho4 hb34
    obtain ⟨k, hk, rfl, ho, hbel⟩ := hrel
    have hlt3 := hbel.size
    by_cases hlt : k < 8
    · have e8 : k = 0 ∨ k = 1 ∨ k = 2 ∨ k = 3 ∨ k = 4 ∨ k = 5 ∨ k = 6 ∨ k = 7 := by omega
      obtain ⟨d, hd⟩ : ∃ d, (tokL tok).getD k 0 = d := ⟨_, rfl⟩
      have HTK : Hid (((tokL tok).take (k + 1)).map (Value.int .u8) = ((tokL tok).take k).map (Value.int .u8) ++ [.int .u8 d]) := by
        rw [List.take_succ_eq_append_getElem (by simpa [tokL] using hlt), List.map_append, ← hd, List.getD_eq_getElem?_getD, List.getElem?_eq_getElem (by simpa [tokL] using hlt)]
        rfl
      have HO : Hid (wr.ownsRow w3.heap.size 5 1 u20 k (((tokL tok).take k).map (Value.int .u8))) := ho
      clear ho
      rcases e8 with rfl | rfl | rfl | rfl | rfl | rfl | rfl | rfl
      all_goals
        simp only [tokL, List.getD_cons_zero, List.getD_cons_succ] at hd
        go_wp2_with (at_builtin; go_must (refine wpList_append_own_at _ rfl (.tmp 87) (.tmp 95) 22 rfl w3.heap.size 5 i0 _ 1 1 Yba.underlying22 hi0 hz0 hz1 hz2 rfl (by decide) u20 _ _ (by rfl) (HO.out.alloc _) ⟨wr.heap.size, 0, none⟩ 1 1 [.int .u8 d] (by rfl) (by rfl) (World.news_of_block (cs := #[.int .u8 d]) (t := 5) (fr := (0, 0)) (heap_alloc_new wr _)) (by simp [Value.oneCell']) (by unfold maxLen; omega) (by omega) (by rw [Go.Deep.nblk_alloc]; omega) ?_; intro v5 w5 ho5 hg5 _ _))
        have h5 := ho5
        rw [← HTK.out] at h5
        have hb5 : Below w3.heap.size w3 w5 := (hbel.alloc hlt3 _).grown hg5 (by rw [Go.Deep.nblk_alloc]; omega) (fun k hk => (own_le HO.out hk).1)
        refine ⟨⟨_, ?_, ?_, h5, hb5⟩, ?_⟩
        · omega
        · rfl
        · simp [intOf]
    · have hk' : k = 8 := by omega
      subst hk'
      have HO : Hid (wr.ownsRow w3.heap.size 5 1 u20 (tokL tok).length ((tokL tok).map (Value.int .u8))) := ho
      have HL8 : Hid ((tokL tok).length = 8) := rfl
      clear ho
      by_cases hc : client.size = 0
      · have hem : client.toList.isEmpty = true := by rw [isEmpty_size]; simpa using hc
        go_wp2_with (first | (show wpList _ _ _ (Oper.mk (some 99) _ _ _ _ _ :: _) _ _; go_must (refine Lib.wpList_append_own_string _ rfl (.tmp 97) (.tmp 98) 22 9 rfl w3.heap.size 5 i0 Yba.underlying22 Yba.underlying9 hi0 hz0 hz1 hz2 u20 (tokL tok).length _ (by rfl) HO.out name (by rfl) (by rw [HL8.out]; unfold maxLen; omega) (by rw [HL8.out]; omega) hlt3 ?_; intro v6 w6 ho6 hg6 _)))
        have ho7 : w6.ownsRow w3.heap.size 5 1 v6 (fed tok name client).length ((fed tok name client).map (Value.int .u8)) := by
          have e : fed tok name client = tokL tok ++ bl name := by rw [fed, if_pos hc, List.append_nil]
          rw [e, List.length_append, bl_length, List.map_append, ← strCells_bl]; exact ho6
        have hb6 : Below w3.heap.size w3 w6 := hbel.grown hg6 hlt3 (fun k hk => (own_le HO.out hk).1)
        obtain ⟨gl, c1, ge, c2, n, rfl, hq0, hq1, hq2, hq3⟩ := end_facts HS3.out hb6 ho7 (by simp [fed, tokL])
        clear ho6 ho7
        go_quiet (fail)
        go_wp2
        go_ret
        exact ⟨rfl, below_drewN (hbw3.trans (hb6.mono hbw3.size)) nq⟩
      · have hem : client.toList.isEmpty = false := by rw [isEmpty_size]; simpa using hc
        go_wp2_with (first | (show wpList _ _ _ (Oper.mk (some 99) _ _ _ _ _ :: _) _ _; go_must (refine Lib.wpList_append_own_string _ rfl (.tmp 97) (.tmp 98) 22 9 rfl w3.heap.size 5 i0 Yba.underlying22 Yba.underlying9 hi0 hz0 hz1 hz2 u20 (tokL tok).length _ (by rfl) HO.out name (by rfl) (by rw [HL8.out]; unfold maxLen; omega) (by rw [HL8.out]; omega) hlt3 ?_; intro v6 w6 ho6 hg6 _)) | (show wpList _ _ _ (Oper.mk (some 104) _ _ _ _ _ :: _) _ _; go_must (refine wpList_append_own_at _ rfl (.tmp 102) (.tmp 103) 22 rfl w3.heap.size 5 i0 _ 1 1 Yba.underlying22 hi0 hz0 hz1 hz2 rfl (by decide) v6 ((tokL tok).length + name.size) _ (by rfl) (ho6.alloc _) ⟨w6.heap.size, 0, none⟩ 1 1 [.int .u8 0] (by rfl) (by rfl) (World.news_of_block (cs := #[.int .u8 0]) (t := 5) (fr := (0, 0)) (heap_alloc_new w6 _)) (by simp [Value.oneCell']) (by rw [HL8.out]; unfold maxLen; omega) (by rw [HL8.out]; omega) (by rw [Go.Deep.nblk_alloc]; exact Nat.le_succ_of_le (Nat.le_trans hlt3 hg6.size)) ?_; intro v7 w7 ho7 hg7 _ _)) | (show wpList _ _ _ (Oper.mk (some 107) _ _ _ _ _ :: _) _ _; go_must (refine Lib.wpList_append_own_string _ rfl (.tmp 105) (.tmp 106) 22 9 rfl w3.heap.size 5 i0 Yba.underlying22 Yba.underlying9 hi0 hz0 hz1 hz2 v7 ((tokL tok).length + name.size + 1) _ (by rfl) ho7 client (by rfl) (by rw [HL8.out]; unfold maxLen; omega) (by rw [HL8.out]; omega) (Nat.le_trans (by rw [Go.Deep.nblk_alloc]; exact Nat.le_succ_of_le (Nat.le_trans hlt3 hg6.size)) hg7.size) ?_; intro v8 w8 ho8 hg8 _)))
        have ho9 : w8.ownsRow w3.heap.size 5 1 v8 (fed tok name client).length ((fed tok name client).map (Value.int .u8)) := by
          have e : fed tok name client = tokL tok ++ bl name ++ 0 :: bl client := by rw [fed, if_neg hc]
          have e1 : (fed tok name client).length = (tokL tok).length + name.size + 1 + client.size := by rw [e]; simp only [List.length_append, List.length_cons, bl_length]; omega
          have e2 : (fed tok name client).map (Value.int .u8) = (tokL tok).map (Value.int .u8) ++ Lib.strCells name ++ [.int .u8 0] ++ Lib.strCells client := by rw [e, strCells_bl, strCells_bl]; simp
          rw [e1, e2]; exact ho8
        have hb6 : Below w3.heap.size w3 w6 := hbel.grown hg6 hlt3 (fun k hk => (own_le HO.out hk).1)
        have hb7 : Below w3.heap.size w3 w7 := (hb6.alloc hb6.size _).grown hg7 (by rw [Go.Deep.nblk_alloc]; have := hb6.size; omega) (fun k hk => (own_le ho6 hk).1)
        have hb8 : Below w3.heap.size w3 w8 := hb7.grown hg8 hb7.size (fun k hk => (own_le ho7 hk).1)
        obtain ⟨gl, c1, ge, c2, n, rfl, hq0, hq1, hq2, hq3⟩ := end_facts HS3.out hb8 ho9 (by simp [fed, tokL])
        clear ho6 ho7 ho8 ho9
        go_quiet (fail)
        go_wp2
        go_ret
        exact ⟨rfl, below_drewN (hbw3.trans (hb8.mono hbw3.size)) nq⟩

end Go.Proofs.Ybulkcmcg.Sec
