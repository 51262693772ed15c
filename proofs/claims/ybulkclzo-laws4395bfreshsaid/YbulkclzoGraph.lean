/-
  SEAT b4395a: the graph that the call makes; the contracts of addSequence (17), zzs4395bgraph (10), slices.Clone (15).
-/
import Derived.Test.YbulkclzoMade
import Derived.Maps.AppendAt
import Derived.Laws.AppendOwnNone
import Derived.Deep.AppendLies
import Derived.Deep.RegionLaw
import Derived.Deep.DrawnRows
import Derived.OneCell
import Derived.Deep.DeepMust
namespace Go.Proofs.Ybulkclzo.Seq
open Go.ChangeShapes Go.WideShapes Go.ChangeAt Go.RowKit

/-- The graph at block 'bp', its two slices 'v' and 's' the call's own (blocks from 'base' on), apart from one another. -/
structure GraphAt (w : World) (base bp : Nat) (v s : Value) (vs ss : List Int) : Prop where
  le : base ≤ bp
  blk : w.heap[bp]? = some (.cells #[.slice none 0 0, v, s, .slice none 0 0, .int .i64 0] 52 (0, 0))
  ownV : w.ownsRow base 21 1 v vs.length (vs.map (Value.int .i32))
  ownS : w.ownsRow base 21 1 s ss.length (ss.map (Value.int .i32))
  apart : v.ownBlock = none ∨ v.ownBlock ≠ s.ownBlock

theorem own_ne {w : World} {base bp n : Nat} {v : Value} {xs : List Value} {cs : Array Value} {fr : Nat × Nat} (h : w.ownsRow base 21 1 v n xs) (hb : w.heap[bp]? = some (.cells cs 52 fr)) : v.ownBlock ≠ some bp := by
  rcases h.2 with ⟨rfl, _⟩ | ⟨g, cap, cur, rfl, _, hg, _⟩
  · simp [Value.ownBlock]
  · intro e
    simp only [Value.ownBlock, Option.some.injEq] at e
    subst e
    rw [hg] at hb
    simp at hb

theorem own_le {w : World} {base n g : Nat} {v : Value} {xs : List Value} (h : w.ownsRow base 21 1 v n xs) (e : v.ownBlock = some g) : base ≤ g ∧ g < w.heap.size := by
  rcases h.2 with ⟨rfl, _⟩ | ⟨g', cap, cur, rfl, hb, hg, _⟩
  · simp [Value.ownBlock] at e
  · simp only [Value.ownBlock, Option.some.injEq] at e
    subst e
    exact ⟨hb, lt_of_block hg⟩

namespace GraphAt
variable {w w1 : World} {base bp : Nat} {v s v' : Value} {vs ss ys : List Int}

theorem lt (h : GraphAt w base bp v s vs ss) : bp < w.heap.size := lt_of_block h.blk

theorem alloc (h : GraphAt w base bp v s vs ss) (o : Obj) : GraphAt (w.alloc o) base bp v s vs ss :=
  ⟨h.le, (Below.heap_alloc _ _ _ h.lt).trans h.blk, h.ownV.alloc _, h.ownS.alloc _, h.apart⟩

theorem drew (h : GraphAt w base bp v s vs ss) : GraphAt w.drew base bp v s vs ss := ⟨h.le, h.blk, h.ownV, h.ownS, h.apart⟩

theorem drewN (h : GraphAt w base bp v s vs ss) (n : Nat) : GraphAt (w.drewN n) base bp v s vs ss := ⟨h.le, h.blk, h.ownV, h.ownS, h.apart⟩

theorem pushV (h : GraphAt w base bp v s vs ss) (ho : w1.ownsRow base 21 1 v' (vs.length + ys.length) (vs.map (Value.int .i32) ++ ys.map (Value.int .i32))) (hg : w.grownBy w1 v.ownBlock)
    (hat : v'.ownBlock = v.ownBlock ∨ v'.ownBlock = some w.heap.size) :
    GraphAt (w1.setCell ⟨bp, 1, none⟩ v') base bp v' s (vs ++ ys) ss ∧ Below base w (w1.setCell ⟨bp, 1, none⟩ v') := by
  have hne := own_ne h.ownV h.blk
  have hneS := own_ne h.ownS h.blk
  have hb1 : w1.heap[bp]? = _ := (hg.block bp h.lt (fun e => hne e.symm)).trans h.blk
  have hSk : w1.ownsRow base 21 1 s ss.length (ss.map (Value.int .i32)) := h.ownS.kept hg (by
    rcases h.apart with e | e
    · rw [e]; cases s.ownBlock <;> simp
    · exact .inr (fun e' => e e'.symm))
  refine ⟨⟨h.le, ?_, ?_, ownsRow_setCell_other hSk hneS _, ?_⟩, ?_⟩
  · have := Go.heap_setCell_same w1 bp 1 _ 52 v' hb1
    simpa using this
  · have h1 := own_ne ho hb1
    have := ownsRow_setCell_other ho (a := ⟨bp, 1, none⟩) h1 v'
    simpa using this
  · rcases hat with e | e
    · rw [e]; exact h.apart
    · right
      rw [e]
      intro e2
      have := (own_le h.ownS e2.symm).2
      omega
  · exact ((Below.refl _ _).grown hg (by have := h.lt; have := h.le; omega) (fun k hk => (own_le h.ownV hk).1)).setCell h.le _

theorem pushS (h : GraphAt w base bp v s vs ss) (ho : w1.ownsRow base 21 1 v' (ss.length + ys.length) (ss.map (Value.int .i32) ++ ys.map (Value.int .i32))) (hg : w.grownBy w1 s.ownBlock)
    (hat : v'.ownBlock = s.ownBlock ∨ v'.ownBlock = some w.heap.size) :
    GraphAt (w1.setCell ⟨bp, 2, none⟩ v') base bp v v' vs (ss ++ ys) ∧ Below base w (w1.setCell ⟨bp, 2, none⟩ v') := by
  have hne := own_ne h.ownV h.blk
  have hneS := own_ne h.ownS h.blk
  have hb1 : w1.heap[bp]? = _ := (hg.block bp h.lt (fun e => hneS e.symm)).trans h.blk
  have hVk : w1.ownsRow base 21 1 v vs.length (vs.map (Value.int .i32)) := h.ownV.kept hg h.apart
  refine ⟨⟨h.le, ?_, ownsRow_setCell_other hVk hne _, ?_, ?_⟩, ?_⟩
  · have := Go.heap_setCell_same w1 bp 2 _ 52 v' hb1
    simpa using this
  · have h1 := own_ne ho hb1
    have := ownsRow_setCell_other ho (a := ⟨bp, 2, none⟩) h1 v'
    simpa using this
  · rcases hat with e | e
    · rw [e]; exact h.apart
    · right
      rw [e]
      intro e2
      have := (own_le h.ownV e2).2
      omega
  · exact ((Below.refl _ _).grown hg (by have := h.lt; have := h.le; omega) (fun k hk => (own_le h.ownS hk).1)).setCell h.le _

theorem under {B : Nat} (h : GraphAt w base bp v s vs ss) (hb : Below B w w1) (hB : w.heap.size ≤ B) : GraphAt w1 base bp v s vs ss := by
  have k : ∀ {u : Value} {n : Nat} {xs : List Value}, w.ownsRow base 21 1 u n xs → w1.ownsRow base 21 1 u n xs := by
    intro u n xs hu
    refine ⟨hu.1, ?_⟩
    rcases hu.2 with hn | ⟨g, cap, cur, rfl, hb', hg, r⟩
    · exact .inl hn
    · exact .inr ⟨g, cap, cur, rfl, hb', (hb.block g (Nat.lt_of_lt_of_le (lt_of_block hg) hB)).trans hg, r⟩
  exact ⟨h.le, (hb.block bp (Nat.lt_of_lt_of_le h.lt hB)).trans h.blk, k h.ownV, k h.ownS, h.apart⟩

theorem farV (h : GraphAt w base bp v s vs ss) (hg : w.grownBy w1 v.ownBlock) (i : Nat) : w1.cell? ⟨bp, i, none⟩ = w.cell? ⟨bp, i, none⟩ ∧ w1.frozen? ⟨bp, i, none⟩ = false := by
  have hb1 := hg.block bp h.lt (fun e => own_ne h.ownV h.blk e.symm)
  exact ⟨World.cell?_of_block hb1, frozen_of_row w1 bp i _ _ (hb1.trans h.blk)⟩
theorem farS (h : GraphAt w base bp v s vs ss) (hg : w.grownBy w1 s.ownBlock) (i : Nat) : w1.cell? ⟨bp, i, none⟩ = w.cell? ⟨bp, i, none⟩ ∧ w1.frozen? ⟨bp, i, none⟩ = false := by
  have hb1 := hg.block bp h.lt (fun e => own_ne h.ownS h.blk e.symm)
  exact ⟨World.cell?_of_block hb1, frozen_of_row w1 bp i _ _ (hb1.trans h.blk)⟩
theorem cell0 (h : GraphAt w base bp v s vs ss) : w.cell? ⟨bp, 0, none⟩ = some (.slice none 0 0) := by rw [cell_of_row w bp 0 _ _ _ h.blk]; rfl
theorem cell1 (h : GraphAt w base bp v s vs ss) : w.cell? ⟨bp, 1, none⟩ = some v := by rw [cell_of_row w bp 1 _ _ _ h.blk]; rfl
theorem cell2 (h : GraphAt w base bp v s vs ss) : w.cell? ⟨bp, 2, none⟩ = some s := by rw [cell_of_row w bp 2 _ _ _ h.blk]; rfl
theorem frozen (h : GraphAt w base bp v s vs ss) (i : Nat) : w.frozen? ⟨bp, i, none⟩ = false := frozen_of_row w bp i _ _ h.blk
end GraphAt

theorem info21 : (Yba.prog.info? 21).map (fun i => (i.zero, i.size, i.bytes)) = some (some (.int .i32 0), 1, 4) := by kernel_rfl
theorem ones (ys : List Int) : ∀ u ∈ ys.map (Value.int .i32), u.oneCell' = true := by
  intro u hu
  obtain ⟨x, _, rfl⟩ := List.mem_map.1 hu
  rfl

theorem own_form {w : World} {base n : Nat} {v : Value} {xs : List Value} (h : w.ownsRow base 21 1 v n xs) : ∃ a cap, v = .slice a n cap := by
  rcases h.2 with ⟨rfl, rfl⟩ | ⟨g, cap, cur, rfl, _⟩
  · exact ⟨none, 0, rfl⟩
  · exact ⟨_, cap, rfl⟩

/-- 'append(out, xs...)', out the call's own, xs a slice of int32 that is read, nil or not. -/
theorem wpList_append_reads (w : World) {ops : Array Oper} {rest : List Oper} {o : Oper} {a : Act} {Q : Exit → Act → World → Prop} (hgd : o.guard = none) (s x : Operand)
    (ho : o.op = .call { callee := .builtin .append, args := #[s, x], argTypes := #[30, 30] }) (base : Nat) (v : Value) (n : Nat) (xs : List Value) (hs : a.eval s = v) (hown : w.ownsRow base 21 1 v n xs)
    (q : Value) (ys : List Int) (hx : a.eval x = q) (hq : Reads w q ys) (hb : n + ys.length ≤ 1000000) (hbase : base ≤ w.heap.size)
    (h : ∀ v' w', w'.ownsRow base 21 1 v' (n + ys.length) (xs ++ ys.map (Value.int .i32)) → w.grownBy w' v.ownBlock → (v'.ownBlock = v.ownBlock ∨ v'.ownBlock = some w.heap.size) → wpList Yba.prog ops Q rest (a.put o.dst v') w') :
    wpList Yba.prog ops Q (o :: rest) a w := by
  obtain ⟨i0, hi0, hz0, hz1, hz2⟩ := info_parts info21
  rcases hq.src with ⟨rfl, rfl⟩ | ⟨ad, cap, rfl, hsrc⟩
  · refine wpList_append_own_none hgd s x 30 ho base 21 i0 1 Yba.underlying30 hi0 v n xs hs hown hx (h v w ?_ ⟨rfl, rfl, rfl, Nat.le_refl _, fun _ _ _ => rfl⟩ (.inl rfl))
    simpa using hown
  · exact wpList_append_own_at w hgd s x 30 ho base 21 i0 _ 1 4 Yba.underlying30 hi0 hz0 hz1 hz2 rfl (by decide) v n xs hs hown ad ys.length cap _ hx (by simp) hsrc (ones ys) (by unfold maxLen; omega) (by omega) hbase
      (fun v' w' h1 h2 _ h4 => h v' w' h1 h2 h4)

theorem add_end {W w2 : World} {base bp gg cap : Nat} {v s : Value} {vs ss : List Int} {N : Int} {o : Obj} (h : GraphAt W base bp v s vs ss)
    (ho : w2.ownsRow base 21 1 (.slice (some ⟨gg, 0, none⟩) (ss.length + 1) cap) (ss.length + 1) (ss.map (Value.int .i32) ++ [.int .i32 N])) (hg : ((W.alloc o).drew).grownBy w2 s.ownBlock) (hat : s.ownBlock = some gg ∨ gg = W.heap.size + 1) :
    GraphAt (w2.setCell ⟨bp, 2, none⟩ (.slice (some ⟨gg, 0, none⟩) (ss.length + 1) cap)) base bp v (.slice (some ⟨gg, 0, none⟩) (ss.length + 1) cap) vs (ss ++ [N]) ∧ Below base W (w2.setCell ⟨bp, 2, none⟩ (.slice (some ⟨gg, 0, none⟩) (ss.length + 1) cap)) := by
  obtain ⟨h1, h2⟩ := ((h.alloc o).drew).pushS (ys := [N]) ho hg (by
    rcases hat with e | e
    · exact .inl (by rw [e]; rfl)
    · exact .inr (by rw [e]; simp [Value.ownBlock]))
  exact ⟨h1, (((Below.refl _ _).alloc (by have := h.lt; have := h.le; omega) o).drew).trans h2⟩

attribute [local go_sem ↓] Go.wp_at_zero Go.wp_at_succ

set_option maxRecDepth 100000 in
set_option maxHeartbeats 2000000 in
theorem add_any (base bp : Nat) (v s q : Value) (vs ss ys : List Int) (w : World) (h : GraphAt w base bp v s vs ss) (hq : Reads w q ys)
    (b1 : vs.length + ys.length ≤ 100000) (b2 : ss.length ≤ 100000) (b3 : 0 < ss.length) :
    Calls Yba.prog 17 #[.pointer (some ⟨bp, 0, none⟩), q] w fun e w' => e = .returned (.int .i32 ((ss.length : Int) - 1)) ∧
      ∃ v' s', GraphAt w' base bp v' s' (vs ++ ys) (ss ++ [((vs.length + ys.length : Nat) : Int)]) ∧ Below base w w' := by
  obtain ⟨i0, hi0, hz0, hz1, hz2⟩ := info_parts info21
  have hbase : base ≤ w.heap.size := by have := h.lt; have := h.le; omega
  have HG : Hid (GraphAt w base bp v s vs ss) := h
  have c1 := h.cell1
  have c2 := h.cell2
  have f1 := h.frozen 1
  clear h
  go_enter Yba.func17, Yba.ntmps17
  go_wp2_with (at_builtin; go_must (refine wpList_append_reads _ rfl (.tmp 9) (.tmp 10) rfl base v vs.length _ (by rfl) HG.out.ownV q ys (by rfl) hq (by omega) hbase ?_; intro v1 w1 ho hg hat; obtain ⟨a1, cap1, rfl⟩ := own_form ho; obtain ⟨k1, k2⟩ := HG.out.farV hg 1; obtain ⟨H2, hb2⟩ := HG.out.pushV ho hg hat; have HG2 : Hid (GraphAt (w1.setCell ⟨bp, 1, none⟩ (.slice a1 (vs.length + ys.length) cap1)) base bp (.slice a1 (vs.length + ys.length) cap1) s (vs ++ ys) ss) := H2; clear H2 ho hg hat))
  generalize w1.setCell ⟨bp, 1, none⟩ (.slice a1 (vs.length + ys.length) cap1) = W at *
  clear k1 k2 c1 c2 f1
  have c1 := HG2.out.cell1
  have c2 := HG2.out.cell2
  have f2 := HG2.out.frozen 2
  have lt := HG2.out.lt
  have hne : W.heap.size ≠ bp := by omega
  have hbase2 : base ≤ W.heap.size := by have := hb2.size; omega
  have b4 : (vs ++ ys).length ≤ 100000 := by simpa using b1
  obtain ⟨N, hN⟩ : ∃ N, vs.length + ys.length = N := ⟨_, rfl⟩
  have HN : Hid (ys.length + vs.length = N) := (Nat.add_comm _ _).trans hN
  simp only [hN] at *
  clear hN
  have hwr : IntKind.i32.wrap (N : Int) = N := by rw [IntKind.wrap_i32]; omega
  go_region_law ((refine step_append_lies _ (by rfl) _ _ _ (by rfl) base 21 i0 _ 1 4 Yba.underlying30 hi0 hz0 hz1 hz2 rfl (by omega) s ss.length _ (by rfl) ((HG2.out.ownS.alloc _).drew) ⟨W.heap.size, 0, none⟩ 1 1 [.int .i32 N] (by rfl) (by rfl) (World.news_of_block (cs := #[.int .i32 N]) (t := 21) (fr := (0, 0)) (heap_alloc_new W _)) (by simp [Value.oneCell']) (by omega) (by unfold maxLen; omega) (by omega) (by simp; omega) (W.heap.size + 1) (by simp) ?_; intro gg cap w2 hown1 hgrow hat hlt; have fz := (((HG2.out.alloc _).drew).farS hgrow 2).2; have cz := (((HG2.out.alloc _).drew).farS hgrow 2).1.trans ((HG2.out.alloc _).drew).cell2; obtain ⟨H3, hb3⟩ := add_end HG2.out hown1 hgrow hat))
  all_goals
    have HG3 : Hid (GraphAt _ base bp _ _ _ _) := H3
    clear H3 hown1 hgrow hat
    go_wp2
    go_ret
    exact ⟨by go_num, _, _, by rw [(Nat.add_comm _ _).trans HN.out]; exact HG3.out, hb2.trans hb3⟩

end Go.Proofs.Ybulkclzo.Seq
