/-
  SEAT b4395a: the contract of zzs4395bgraph (10).
-/
import Derived.Test.YbulkclzoGraph
namespace Go.Proofs.Ybulkclzo.Seq
open Go.ChangeShapes Go.WideShapes Go.ChangeAt Go.RowKit

/-- The slice of slices 'v' reads as the lists 'xss'. -/
def ReadsAll (w : World) (v : Value) (xss : List (List Int)) : Prop :=
  ∃ a cap, v = .slice a xss.length cap ∧ ∀ i, i < xss.length → ∃ b off q, a = some ⟨b, off, none⟩ ∧ w.cell? ⟨b, off + i, none⟩ = some q ∧ Reads w q (xss.getD i [])

/-- The sequences' vertices, and the starts, behind 'k' sequences. -/
def vsTo (xss : List (List Int)) (k : Nat) : List Int := (xss.take k).flatten
def ssTo (xss : List (List Int)) (k : Nat) : List Int := 0 :: (List.range k).map fun j => ((vsTo xss (j + 1)).length : Int)

theorem vsTo_succ (xss : List (List Int)) (k : Nat) (hk : k < xss.length) : vsTo xss (k + 1) = vsTo xss k ++ xss.getD k [] := by
  unfold vsTo
  rw [List.take_succ_eq_append_getElem hk, List.flatten_append, List.getD_eq_getElem?_getD, List.getElem?_eq_getElem hk]
  simp
theorem ssTo_succ (xss : List (List Int)) (k : Nat) : ssTo xss (k + 1) = ssTo xss k ++ [((vsTo xss (k + 1)).length : Int)] := by
  simp [ssTo, List.range_succ]
theorem ssTo_length (xss : List (List Int)) (k : Nat) : (ssTo xss k).length = k + 1 := by simp [ssTo]
theorem vsTo_le (xss : List (List Int)) (k : Nat) : (vsTo xss k).length ≤ xss.flatten.length := by
  have h : xss.flatten = (xss.take k).flatten ++ (xss.drop k).flatten := by rw [← List.flatten_append, List.take_append_drop]
  rw [h, List.length_append]
  exact Nat.le_add_right _ _
theorem vsTo_all (xss : List (List Int)) : vsTo xss xss.length = xss.flatten := by simp [vsTo]

theorem graph_start (w : World) (xss : List (List Int)) : GraphAt ((w.alloc (.cells #[.int .i32 0] 21)).alloc (.cells #[.slice none 0 0, .slice none 0 0, .slice (some ⟨w.heap.size, 0, none⟩) 1 1, .slice none 0 0, .int .i64 0] 52)) w.heap.size (w.heap.size + 1) (.slice none 0 0) (.slice (some ⟨w.heap.size, 0, none⟩) 1 1) (vsTo xss 0) (ssTo xss 0) := by
  refine ⟨by omega, ?_, World.ownsRow_nil _ _ _ _, ?_, .inl rfl⟩
  · have := heap_alloc_new (w.alloc (.cells #[.int .i32 0] 21)) (.cells #[.slice none 0 0, .slice none 0 0, .slice (some ⟨w.heap.size, 0, none⟩) 1 1, .slice none 0 0, .int .i64 0] 52)
    rw [Go.Deep.nblk_alloc] at this
    exact this
  · exact (World.ownsRow_lit w #[.int .i32 0] 1 (Nat.le_refl _) (by unfold maxLen; omega) rfl).alloc _

attribute [local go_sem ↓] Go.wp_at_zero Go.wp_at_succ

set_option maxRecDepth 100000 in
set_option maxHeartbeats 4000000 in
theorem graph_any (p : Value) (xss : List (List Int)) (w : World) (hp : ReadsAll w p xss) (b1 : xss.length ≤ 1000) (b2 : xss.flatten.length ≤ 50000) :
    Calls Yba.prog 10 #[p] w fun e w' => e = .returned (.pointer (some ⟨w.heap.size + 1, 0, none⟩)) ∧
      ∃ v' s', GraphAt w' w.heap.size (w.heap.size + 1) v' s' xss.flatten (ssTo xss xss.length) ∧ Below w.heap.size w w' := by
  obtain ⟨i0, hi0, hz0, hz1, hz2⟩ := info_parts info21
  obtain ⟨a, cap, rfl, ha⟩ := hp
  obtain ⟨n, hn⟩ : ∃ n, xss.length = n := ⟨_, rfl⟩
  rw [hn] at ha b1
  have HA : Hid (∀ i, i < n → ∃ b off q, a = some ⟨b, off, none⟩ ∧ w.cell? ⟨b, off + i, none⟩ = some q ∧ Reads w q (xss.getD i [])) := ha
  clear ha
  have HN : Hid (xss.length = n) := hn
  have HALL : Hid (vsTo xss n = xss.flatten) := by rw [← hn]; exact vsTo_all xss
  have HLE : Hid (∀ k, (vsTo xss k).length ≤ 50000) := fun k => Nat.le_trans (vsTo_le xss k) b2
  rw [hn]
  clear hn b2
  go_enter Yba.func10, Yba.ntmps10
  go_wp2
  go_loopw [11, 5] (fun i _ wr => ∃ (k : Nat) (v s : Value), k ≤ n ∧ i = .int .i64 k ∧ GraphAt wr w.heap.size (w.heap.size + 1) v s (vsTo xss k) (ssTo xss k) ∧ Below w.heap.size w wr) (fun i _ _ => n - (intOf i).toNat)
  case atStart => exact ⟨0, _, _, Nat.zero_le _, rfl, graph_start w xss, ((Below.refl _ _).alloc (Nat.le_refl _) _).alloc (by simp) _⟩
  case round =>
    obtain ⟨k, v, s, hk, rfl, hg0, hbel⟩ := hrel
    have HG : Hid (GraphAt wr w.heap.size (w.heap.size + 1) v s (vsTo xss k) (ssTo xss k)) := hg0
    have c1 := hg0.cell1
    have c2 := hg0.cell2
    have f1 := hg0.frozen 1
    have hbase := hbel.size
    clear hg0
    by_cases hlt : k < n
    · obtain ⟨b, off, q, rfl, cq, hq⟩ := HA.out k hlt
      have d1 := (hbel.cell (World.block_lt_of_cell? _ _ cq)).trans cq
      have HQ : Hid (Reads wr q (xss.getD k [])) := hq.under hbel (Nat.le_refl _)
      have HV : Hid (vsTo xss (k + 1) = vsTo xss k ++ xss.getD k []) := vsTo_succ xss k (by rw [HN.out]; exact hlt)
      have hle := HLE.out (k + 1)
      rw [HV.out, List.length_append] at hle
      clear hq cq
      obtain ⟨ys, hys⟩ : ∃ ys, xss.getD k [] = ys := ⟨_, rfl⟩
      have HYS : Hid (xss.getD k [] = ys) := hys
      rw [hys] at HQ HV hle
      clear hys
      go_wp2_with (at_builtin; go_must (refine wpList_append_reads _ rfl (.tmp 19) (.tmp 20) rfl w.heap.size v (vsTo xss k).length _ (by rfl) HG.out.ownV q ys (by rfl) HQ.out (by omega) hbase ?_; intro v1 w1 ho hg hat; obtain ⟨a1, cap1, rfl⟩ := own_form ho; obtain ⟨k1, k2⟩ := HG.out.farV hg 1; obtain ⟨H2, hb2⟩ := HG.out.pushV ho hg hat; have HG2 : Hid (GraphAt (w1.setCell ⟨w.heap.size + 1, 1, none⟩ (.slice a1 ((vsTo xss k).length + ys.length) cap1)) w.heap.size (w.heap.size + 1) (.slice a1 ((vsTo xss k).length + ys.length) cap1) s (vsTo xss k ++ ys) (ssTo xss k)) := H2; clear H2 ho hg hat))
      generalize w1.setCell ⟨w.heap.size + 1, 1, none⟩ (.slice a1 ((vsTo xss k).length + ys.length) cap1) = W at *
      clear k1 k2 c1 c2 f1 d1
      have c1 := HG2.out.cell1
      have c2 := HG2.out.cell2
      have f2 := HG2.out.frozen 2
      have lt := HG2.out.lt
      have hne : W.heap.size ≠ w.heap.size + 1 := by omega
      have hbase2 : w.heap.size ≤ W.heap.size := by omega
      obtain ⟨N, hN⟩ : ∃ N, (vsTo xss k).length + ys.length = N := ⟨_, rfl⟩
      have HNN : Hid ((vsTo xss (k + 1)).length = N) := by rw [HV.out, List.length_append]; exact hN
      simp only [hN] at *
      clear hN
      have hwr : IntKind.i32.wrap (N : Int) = N := by rw [IntKind.wrap_i32]; omega
      have hsl : (ssTo xss k).length ≤ 100000 := by rw [ssTo_length]; omega
      go_region_law ((refine step_append_lies _ (by rfl) _ _ _ (by rfl) w.heap.size 21 i0 _ 1 4 Yba.underlying30 hi0 hz0 hz1 hz2 rfl (by omega) s (ssTo xss k).length _ (by rfl) ((HG2.out.ownS.alloc _).drew) ⟨W.heap.size, 0, none⟩ 1 1 [.int .i32 N] (by rfl) (by rfl) (World.news_of_block (cs := #[.int .i32 N]) (t := 21) (fr := (0, 0)) (heap_alloc_new W _)) (by simp [Value.oneCell']) (by omega) (by unfold maxLen; omega) (by omega) (by simp; omega) (W.heap.size + 1) (by simp) ?_; intro gg cap w2 hown1 hgrow hat hlt; have fz := (((HG2.out.alloc _).drew).farS hgrow 2).2; have cz := (((HG2.out.alloc _).drew).farS hgrow 2).1.trans ((HG2.out.alloc _).drew).cell2; obtain ⟨H3, hb3⟩ := add_end HG2.out hown1 hgrow hat))
      all_goals
        have HG3 : Hid (GraphAt _ w.heap.size (w.heap.size + 1) _ _ _ _) := H3
        clear H3 hown1 hgrow hat
        go_wp2
        go_roundw
        case rel => exact ⟨k + 1, _, _, by omega, by go_num, by rw [ssTo_succ, HNN.out, HV.out]; exact HG3.out, hbel.trans (hb2.trans hb3)⟩
        case measure => simp [intOf]; omega
    · have hk' : k = n := by omega
      subst hk'
      go_wp2
      go_ret
      exact ⟨rfl, v, s, by rw [← HALL.out]; exact HG.out, hbel⟩

end Go.Proofs.Ybulkclzo.Seq
