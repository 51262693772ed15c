/-
  SEAT b4400a: the log of closed connections, and the connections, in memory; the contract of the stand-in connection's Close (63).
-/
import Derived.Test.YbulkcmcgSt
namespace Go.Proofs.Ybulkcmcg.Idle
open Go.ChangeShapes Go.WideShapes Go.ChangeAt Go.RowKit

theorem info3 : (Yba.prog.info? 3).map (fun i => (i.zero, i.size, i.bytes)) = some (some (.int .i64 0), 1, 8) := by kernel_rfl
theorem info75 : (Yba.prog.info? 75).map (fun i => (i.zero, i.size, i.bytes)) = some (some (.pointer none), 1, 8) := by kernel_rfl
theorem method_close (b : Nat) (w : World) : (method 394 76 (.pointer (some ⟨b, 0, none⟩)) "Close").run Yba.prog w = .ok (63, .pointer (some ⟨b, 0, none⟩)) w := by kernel_rfl

section
variable {w w1 w2 : World} {base n g e : Nat} {v : Value} {xs : List Value}
theorem own_far (h : w.ownsRow base e 1 v n xs) {b t k : Nat} {f : Nat → Value} (hr : w.rowIs b t k f) (ht : t ≠ e) : v.ownBlock ≠ some b := by
  obtain ⟨c, hc, _⟩ := hr
  rcases h.2 with ⟨rfl, _⟩ | ⟨g, cap, cur, rfl, _, hg, _⟩
  · simp [Value.ownBlock]
  · intro q
    simp only [Value.ownBlock, Option.some.injEq] at q
    subst q
    rw [hg] at hc
    simp at hc
    exact ht hc.2.symm
theorem own_le (h : w.ownsRow base e 1 v n xs) (q : v.ownBlock = some g) : base ≤ g ∧ g < w.heap.size := h.lt g q
theorem grown_row (hg : w.grownBy w1 v.ownBlock) (h : w.ownsRow base e 1 v n xs) {b t k : Nat} {f : Nat → Value} (hr : w.rowIs b t k f) (ht : t ≠ e) : w1.rowIs b t k f :=
  hr.of_block (hg.block b hr.lt (fun q => own_far h hr ht q.symm))
theorem rows_far {b b' t t' k k' : Nat} {f f' : Nat → Value} (h : w.rowIs b t k f) (h' : w.rowIs b' t' k' f') (ht : t ≠ t') : b ≠ b' := by
  obtain ⟨c, hc, _⟩ := h
  obtain ⟨c', hc', _⟩ := h'
  intro q
  subst q
  rw [hc] at hc'
  simp at hc'
  exact ht hc'.2
end

/-- The blocks that are not Lb, and hold no ints of a slice, are as they were. -/
structure KeptL (Lb : Nat) (w w' : World) : Prop where
  size : w.heap.size ≤ w'.heap.size
  blk : ∀ k, k < w.heap.size → k ≠ Lb → (∀ cs fr, w.heap[k]? ≠ some (.cells cs 3 fr)) → w'.heap[k]? = w.heap[k]?

namespace KeptL
variable {Lb : Nat} {w w1 w2 : World}
theorem refl (Lb : Nat) (w : World) : KeptL Lb w w := ⟨Nat.le_refl _, fun _ _ _ _ => rfl⟩
theorem trans (h : KeptL Lb w w1) (k : KeptL Lb w1 w2) : KeptL Lb w w2 :=
  ⟨Nat.le_trans h.size k.size, fun i a b d => by
    have q := h.blk i a b d
    rw [k.blk i (Nat.lt_of_lt_of_le a h.size) b (by rw [q]; exact d), q]⟩
theorem drew (h : KeptL Lb w w1) : KeptL Lb w w1.drew := ⟨h.size, h.blk⟩
theorem alloc (h : KeptL Lb w w1) (o : Obj) : KeptL Lb w (w1.alloc o) :=
  h.trans ⟨by rw [Go.Deep.nblk_alloc]; omega, fun k hk _ _ => Below.heap_alloc _ _ _ hk⟩
theorem setCell (h : KeptL Lb w w1) {a : Addr} (ha : a.block = Lb) (u : Value) : KeptL Lb w (w1.setCell a u) :=
  h.trans ⟨by simp [World.setCell], fun k _ h1 _ => Below.heap_setCell _ _ _ _ (by omega)⟩
theorem grown {base n : Nat} {v : Value} {xs : List Value} (h : KeptL Lb w w1) (ho : w1.ownsRow base 3 1 v n xs) (hg : w1.grownBy w2 v.ownBlock) : KeptL Lb w w2 :=
  h.trans ⟨hg.size, fun k hk _ h5 => hg.block k hk (fun q => by
    rcases ho.2 with ⟨rfl, _⟩ | ⟨g, cap, cur, rfl, _, hgg, _⟩
    · simp [Value.ownBlock] at q
    · simp only [Value.ownBlock, Option.some.injEq] at q
      subst q
      exact h5 _ _ hgg)⟩
theorem row {b t n : Nat} {f : Nat → Value} (h : KeptL Lb w w1) (hr : w.rowIs b t n f) (h1 : b ≠ Lb) (h5 : t ≠ 3) : w1.rowIs b t n f :=
  hr.of_block (h.blk b hr.lt h1 (fun cs fr q => by
    obtain ⟨c, hc, _⟩ := hr
    rw [q] at hc
    simp at hc
    exact h5 hc.2.1.symm))
theorem own {base e n : Nat} {v : Value} {xs : List Value} (h : KeptL Lb w w1) (ho : w.ownsRow base e 1 v n xs) (h1 : v.ownBlock ≠ some Lb) (h5 : e ≠ 3) : w1.ownsRow base e 1 v n xs := by
  refine ⟨ho.1, ?_⟩
  rcases ho.2 with q | ⟨g, cap, cur, hv, hb, hg, rest⟩
  · exact .inl q
  · refine .inr ⟨g, cap, cur, hv, hb, ?_, rest⟩
    rw [h.blk g (lt_of_block hg) (fun q => h1 (by rw [hv, q]; rfl)) (fun cs fr q => by rw [q] at hg; simp at hg; exact h5 hg.2.1.symm)]
    exact hg
end KeptL

/-- The log at block Lb: the slice 'lv' holds the numbers L. -/
structure LogAt (w : World) (base Lb : Nat) (lv : Value) (L : List Int) : Prop where
  low : base ≤ Lb
  row : w.rowIs Lb 23 1 (fun _ => lv)
  own : w.ownsRow base 3 1 lv L.length (L.map (Value.int .i64))

theorem LogAt.low2 {w : World} {base Lb : Nat} {lv : Value} {L : List Int} (h : LogAt w base Lb lv L) : base ≤ w.heap.size := by
  have := h.low; have := h.row.lt; omega

def connF (Lb : Nat) (id : Int) (i : Nat) : Value := if i = 0 then .int .i64 id else .pointer (some ⟨Lb, 0, none⟩)

theorem LogAt.push {w w1 : World} {base Lb : Nat} {lv V : Value} {L : List Int} {id : Int} (o : Obj) (h : LogAt w base Lb lv L)
    (ho : w1.ownsRow base 3 1 V (L.length + 1) (L.map (Value.int .i64) ++ [.int .i64 id])) (hg : (w.alloc o).drew.grownBy w1 lv.ownBlock) :
    LogAt (w1.setCell ⟨Lb, 0, none⟩ V) base Lb V (L ++ [id]) ∧ Below base w (w1.setCell ⟨Lb, 0, none⟩ V) ∧ KeptL Lb w (w1.setCell ⟨Lb, 0, none⟩ V) := by
  have h2 : (w.alloc o).drew.ownsRow base 3 1 lv L.length (L.map (Value.int .i64)) := (h.own.alloc o).drew
  have hr0 : (w.alloc o).drew.rowIs Lb 23 1 (fun _ => lv) := h.row.alloc o
  have hr1 : w1.rowIs Lb 23 1 (fun _ => lv) := grown_row hg h2 hr0 (by decide)
  have hr2 : (w1.setCell ⟨Lb, 0, none⟩ V).rowIs Lb 23 1 (fun _ => V) := (hr1.set 0 V).congr (fun i hi => by
    have : i = 0 := by omega
    simp [this])
  refine ⟨⟨h.low, hr2, ?_⟩, ?_, ?_⟩
  · have := ownsRow_setCell_other ho (a := ⟨Lb, 0, none⟩) (own_far ho hr1 (by decide)) V
    simpa using this
  · exact ((((Below.refl _ _).alloc h.low2 o).drew).grown hg (by have := h.low2; simp; omega) (fun k hk => (own_le h2 hk).1)).setCell h.low _
  · exact ((((KeptL.refl Lb w).alloc o).drew).grown h2 hg).setCell rfl _

set_option maxHeartbeats 2000000 in
theorem close_any (base Lb d : Nat) (lv : Value) (L : List Int) (id : Int) (w : World) (h : LogAt w base Lb lv L) (hd : w.rowIs d 78 2 (connF Lb id)) (hL : L.length ≤ 5000) :
    Calls Yba.prog 63 #[.pointer (some ⟨d, 0, none⟩)] w fun e w' => e = .returned .nilIface ∧ (∃ lv', LogAt w' base Lb lv' (L ++ [id])) ∧ Below base w w' ∧ KeptL Lb w w' := by
  obtain ⟨i0, hi0, hz0, hz1, hz2⟩ := info_parts info3
  have HG : Hid (LogAt w base Lb lv L) := h
  have hbase := h.low2
  have c0 : w.cell? ⟨d, 0, none⟩ = some (.int .i64 id) := hd.cell (by omega)
  have c1 : w.cell? ⟨d, 1, none⟩ = some (.pointer (some ⟨Lb, 0, none⟩)) := hd.cell (by omega)
  have cl : w.cell? ⟨Lb, 0, none⟩ = some lv := h.row.cell (by omega)
  have fl := h.row.frozen 0
  have lt1 := hd.lt
  have lt2 := h.row.lt
  have hne1 : w.heap.size ≠ d := by omega
  have hne2 : w.heap.size ≠ Lb := by omega
  have HD : Hid (w.rowIs d 78 2 (connF Lb id)) := hd
  clear h hd
  go_enter Yba.func63, Yba.ntmps63
  go_wp2
  go_region_law ((refine step_append_lies _ (by rfl) _ _ _ (by rfl) base 3 i0 _ 1 8 Yba.underlying23 hi0 hz0 hz1 hz2 rfl (by omega) lv L.length _ (by rfl) ((HG.out.own.alloc _).drew) ⟨w.heap.size, 0, none⟩ 1 1 [.int .i64 id] (by rfl) (by rfl) (World.news_of_block (cs := #[.int .i64 id]) (t := 3) (fr := (0, 0)) (heap_alloc_new w _)) (by simp [Value.oneCell']) (by omega) (by unfold maxLen; omega) (by omega) (by simp; omega) (w.heap.size + 1) (by simp) ?_; intro gg cap w2 hown1 hgrow hat hlt; have hrl := grown_row hgrow ((HG.out.own.alloc _).drew) (HG.out.row.alloc _) (by decide); have hrd := grown_row hgrow ((HG.out.own.alloc _).drew) (HD.out.alloc _) (by decide); have fz := hrl.frozen 0; have cz : w2.cell? ⟨Lb, 0, none⟩ = some lv := hrl.cell (i := 0) (by omega); have cd1 : w2.cell? ⟨d, 1, none⟩ = some (.pointer (some ⟨Lb, 0, none⟩)) := hrd.cell (i := 1) (by omega); obtain ⟨H3, hb3, hk3⟩ := HG.out.push _ hown1 hgrow; clear hrl hrd))
  all_goals
    go_wp2
    go_ret
    exact ⟨rfl, ⟨_, H3⟩, hb3, hk3⟩

end Go.Proofs.Ybulkcmcg.Idle
