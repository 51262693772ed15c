/-
  SEAT b4395a: the contracts of sequenceIn (11): where a sequence is recorded, and where none is; slices.Clone (15).
-/
import Derived.Test.YbulkclzoGraphB
import Derived.Deep.RegionWith
import Derived.Lib.SliceRun
namespace Go.Proofs.Ybulkclzo.Seq
open Go.ChangeShapes Go.WideShapes Go.ChangeAt Go.RowKit

namespace ItemIs
variable {w w' : World} {bi rb m : Nat} {xs : List Int} {c : Int}

theorem lt (h : ItemIs w bi rb m xs c) : bi < w.heap.size ∧ rb < w.heap.size := by
  obtain ⟨f, h1, _, _, h4⟩ := h
  exact ⟨h1.lt, h4.lt⟩
theorem two (h : ItemIs w bi rb m xs c) : bi ≠ rb := by
  obtain ⟨f, ⟨c1, e1, _⟩, _, _, ⟨c2, e2, _⟩⟩ := h
  intro e
  subst e
  rw [e1] at e2
  simp at e2
theorem under (h : ItemIs w bi rb m xs c) {B : Nat} (hb : Below B w w') (h1 : bi < B) (h2 : rb < B) : ItemIs w' bi rb m xs c := by
  obtain ⟨f, a1, a2, a3, a4⟩ := h
  exact ⟨f, a1.of_block (hb.block _ h1), a2, a3, a4.of_block (hb.block _ h2)⟩
theorem rel (h : ItemIs w bi rb m xs c) (hm : m < 5) : w.cell? ⟨bi, 5 + m, none⟩ = some (.slice (some ⟨rb, 0, none⟩) xs.length xs.length) := by
  obtain ⟨f, a1, a2, a3, a4⟩ := h
  rw [a1.cell (by omega), a2]
theorem rels (h : ItemIs w bi rb m xs c) : ∀ k, k < xs.length → w.cell? ⟨rb, k * 2, none⟩ = some (.int .i32 (xs.getD k 0)) ∧ w.cell? ⟨rb, k * 2 + 1, none⟩ = some (.int .i64 k) := by
  obtain ⟨f, a1, a2, a3, a4⟩ := h
  intro k hk
  have e1 : (k * 2) % 2 = 0 := by omega
  have e2 : (k * 2 + 1) % 2 = 1 := by omega
  have e3 : (k * 2) / 2 = k := by omega
  have e4 : (k * 2 + 1) / 2 = k := by omega
  refine ⟨?_, ?_⟩
  · rw [a4.cell (by omega)]; simp [relF, e1, e3, hk]
  · rw [a4.cell (by omega)]; simp [relF, e2, e4, hk]
theorem recAt (h : ItemIs w bi rb m xs c) (hm : m < 5) : w.cell? ⟨bi, 15 + m, none⟩ = some (.int .i32 c) := by
  obtain ⟨f, a1, a2, a3, a4⟩ := h
  rw [a1.cell (by omega), a3 m hm]
  simp
theorem recs (h : ItemIs w bi rb m xs c) : ∀ k, k < 5 → k ≠ m → w.cell? ⟨bi, 15 + k, none⟩ = some (.int .i32 ((k : Int) + 7)) := by
  obtain ⟨f, a1, a2, a3, a4⟩ := h
  intro k hk hne
  rw [a1.cell (by omega), a3 k hk]
  simp [hne]
theorem frozen (h : ItemIs w bi rb m xs c) (i : Nat) : w.frozen? ⟨bi, i, none⟩ = false := by
  obtain ⟨f, a1, a2, a3, a4⟩ := h
  exact a1.frozen i
theorem store (h : ItemIs w bi rb m xs c) (hm : m < 5) (d : Int) : ItemIs (w.setCell ⟨bi, 15 + m, none⟩ (.int .i32 d)) bi rb m xs d := by
  have hne := h.two
  obtain ⟨f, a1, a2, a3, a4⟩ := h
  refine ⟨_, a1.set (15 + m) _, ?_, fun j hj => ?_, a4.setOther (fun e => hne e.symm) _⟩
  · have : ¬ (5 + m = 15 + m) := by omega
    simp only [if_neg this, a2]
  · by_cases e : j = m
    · subst e; simp
    · have : ¬ (15 + j = 15 + m) := by omega
      simp only [if_neg this, a3 j hj, if_neg e]
theorem drewN (h : ItemIs w bi rb m xs c) (n : Nat) : ItemIs (w.drewN n) bi rb m xs c := by
  obtain ⟨f, a1, a2, a3, a4⟩ := h
  exact ⟨f, a1, a2, a3, a4⟩
theorem drew (h : ItemIs w bi rb m xs c) : ItemIs w.drew bi rb m xs c := by
  obtain ⟨f, a1, a2, a3, a4⟩ := h
  exact ⟨f, a1, a2, a3, a4⟩
end ItemIs

theorem GraphAt.setLow {w : World} {base bp : Nat} {v s : Value} {vs ss : List Int} (h : GraphAt w base bp v s vs ss) {a : Addr} (ha : a.block < base) (u : Value) : GraphAt (w.setCell a u) base bp v s vs ss := by
  have := h.le
  exact ⟨h.le, (Below.heap_setCell _ _ _ _ (by omega)).trans h.blk, ownsRow_setCell_below h.ownV ha u, ownsRow_setCell_below h.ownS ha u, h.apart⟩

set_option maxHeartbeats 1000000 in
theorem seqIn_known (bi m : Nat) (q : Value) (c : Int) (w : World) (hm : m < 5) (hc : c ≠ 0) (h : w.cell? ⟨bi, 15 + m, none⟩ = some (.int .i32 c)) :
    Calls Yba.prog 11 #[.pointer (some ⟨bi, 0, none⟩), q, .int .u8 m] w fun e w' => e = .returned (.int .i32 (wrap32 (c - 1))) ∧ w' = w := by
  have hb : (c == 0) = false := by rw [beq_eq_false_iff_ne]; exact hc
  go_enter Yba.func11, Yba.ntmps11
  go_wp2
  go_ret
  exact ⟨rfl, rfl⟩

set_option maxRecDepth 100000 in
set_option maxHeartbeats 2000000 in
theorem seqIn_fresh (B bi rb m base bp : Nat) (v s : Value) (xs vs ss : List Int) (w : World) (hm : m < 5) (hi : ItemIs w bi rb m xs 0) (hg : GraphAt w base bp v s vs ss)
    (hb1 : B ≤ bi) (hb2 : bi < base) (hb3 : rb < base) (b1 : vs.length + xs.length ≤ 100000) (b2 : ss.length ≤ 100000) (b3 : 0 < ss.length) :
    Calls Yba.prog 11 #[.pointer (some ⟨bi, 0, none⟩), .pointer (some ⟨bp, 0, none⟩), .int .u8 m] w fun e w' => e = .returned (.int .i32 ((ss.length : Int) - 1)) ∧
      ItemIs w' bi rb m xs ss.length ∧ (∃ v' s', GraphAt w' base bp v' s' (vs ++ xs) (ss ++ [((vs.length + xs.length : Nat) : Int)])) ∧ Below B w w' := by
  have HI : Hid (ItemIs w bi rb m xs 0) := hi
  have HG : Hid (GraphAt w base bp v s vs ss) := hg
  have c1 := hi.recAt hm
  have hsz : base ≤ w.heap.size := by have := hg.lt; have := hg.le; omega
  clear hi hg
  go_enter Yba.func11, Yba.ntmps11
  go_wp2
  go_region_with (first | (go_at_call 18; go_must (refine (release_any bi rb m xs _ hm (by omega) (HI.out.drew.rel hm) HI.out.drew.rels).mono ?_; rintro e w1 ⟨rfl, hrow, hbw⟩)) | (go_at_call 17; go_must (refine (add_any base bp v s _ vs ss xs _ (HG.out.drew.under hbw (Nat.le_refl _)) (Reads.row hrow rfl (fun i hi => by simp [seqF, hi])) b1 b2 b3).mono ?_; rintro e w2 ⟨rfl, v', s', hg2, hbw2⟩; have hi2 := (HI.out.drew.under hbw (by simp; omega) (by simp; omega)).under hbw2 hb2 hb3; have c2 := hi2.recAt hm; have f2 := hi2.frozen (15 + m))))
  have HG2 : Hid (GraphAt w2 base bp v' s' (vs ++ xs) (ss ++ [((vs.length + xs.length : Nat) : Int)])) := hg2
  have HI2 : Hid (ItemIs w2 bi rb m xs 0) := hi2
  clear hg2 hi2 hrow
  go_wp2
  go_ret
  refine ⟨by go_num, ?_, ⟨v', s', HG2.out.setLow hb2 _⟩, ?_⟩
  · have hst := HI2.out.store hm (ss.length : Int)
    first | exact hst | (simp only [Int.sub_add_cancel]; exact hst) | (go_show; exact hst)
  · exact (((Below.refl _ _).drew.trans (hbw.mono (by simp; omega))).trans (hbw2.mono (by omega))).setCell hb1 _

set_option maxHeartbeats 1000000 in
theorem clone_any (v : Value) (xs : List Int) (w : World) (hv : Reads w v xs) (hn : xs.length ≤ 100000) :
    Calls Yba.prog 15 #[v] w fun e w' => ∃ u, e = .returned u ∧ Reads w' u xs ∧ Below w.heap.size w w' := by
  have HV : Hid (Reads w v xs) := hv
  have heq : ∀ (w : World) (a : Option Addr) (n c : Nat), (binOp .eql 30 (.slice a n c) (.slice none 0 0)).run Yba.prog w = .ok (.bool a.isNone) w := fun w a n c => Lib.run_eql_slice_nil w 30 21 a n c 0 0 Yba.underlying30
  rcases hv.src with ⟨rfl, rfl⟩ | ⟨ad, cap, rfl, hsrc⟩
  · clear hv
    go_enter Yba.func15, Yba.ntmps15
    go_wp2
    go_ret
    exact ⟨_, rfl, HV.out, Below.refl _ _⟩
  · clear hv hsrc
    have HV2 : Hid (Reads (w.alloc (.cells #[] 21)) (.slice (some ad) xs.length cap) xs) := HV.out.under ((Below.refl _ _).alloc (Nat.le_refl _) _) (Nat.le_refl _)
    have HO : Hid ((w.alloc (.cells #[] 21)).ownsRow w.heap.size 21 1 (.slice (some ⟨w.heap.size, 0, none⟩) 0 0) 0 []) := World.ownsRow_lit w #[] 0 (Nat.le_refl _) (by unfold maxLen; omega) rfl
    go_enter Yba.func15, Yba.ntmps15
    go_wp2_with (at_builtin; go_must (refine wpList_append_reads _ rfl (.tmp 5) (.tmp 6) rfl w.heap.size _ 0 _ (by rfl) HO.out _ xs (by rfl) HV2.out (by omega) (by simp) ?_; intro v1 w1 ho hg hat; obtain ⟨a1, cap1, rfl⟩ := own_form ho))
    go_ret
    refine ⟨_, rfl, Reads.own (base := w.heap.size) (by simpa using ho), ((Below.refl _ _).alloc (Nat.le_refl _) _).grown hg (by simp) (fun k hk => ?_)⟩
    simp only [Value.ownBlock, Option.some.injEq] at hk
    omega

end Go.Proofs.Ybulkclzo.Seq
