/-
  SEAT b4400a: the contract of zzs4400bbuild (6).
-/
import Derived.Test.YbulkcmcgClose
namespace Go.Proofs.Ybulkcmcg.Idle
open Go.ChangeShapes Go.WideShapes Go.ChangeAt Go.RowKit

/-- The slice value 'v' reads as the bytes 'xs' in the world 'w'. -/
def Reads (w : World) (v : Value) (xs : List Int) : Prop :=
  ∃ a cap, v = .slice a xs.length cap ∧ (∀ i, 0 ≤ xs.getD i 0 ∧ xs.getD i 0 ≤ 255) ∧ ∀ i, i < xs.length → ∃ b off, a = some ⟨b, off, none⟩ ∧ w.cell? ⟨b, off + i, none⟩ = some (.int .u8 (xs.getD i 0))

theorem Reads.under {w w' : World} {v : Value} {xs : List Int} (h : Reads w v xs) {B : Nat} (hb : Below B w w') (hB : w.heap.size ≤ B) : Reads w' v xs := by
  obtain ⟨a, cap, e, hz, h⟩ := h
  refine ⟨a, cap, e, hz, fun i hi => ?_⟩
  obtain ⟨b, off, e2, hc⟩ := h i hi
  exact ⟨b, off, e2, (hb.cell (Nat.lt_of_lt_of_le (World.block_lt_of_cell? _ _ hc) hB)).trans hc⟩

theorem heap3 (w : World) (o1 o2 o3 : Obj) : (((w.alloc o1).alloc o2).alloc o3).heap[w.heap.size + 1 + 1]? = some o3 := by
  have := heap_alloc_new ((w.alloc o1).alloc o2) o3
  rwa [Go.Deep.nblk_alloc, Go.Deep.nblk_alloc] at this

def ccRow (d : Nat) : Array Value := #[.iface 76 (.pointer (some ⟨d, 0, none⟩)), .pointer none, .slice none 0 0, .bool false, .int .u64 0, .int .i64 0, .pointer none]

theorem conn_row (w : World) (Lb : Nat) (id : Int) : (w.alloc (.cells #[.int .i64 id, .pointer (some ⟨Lb, 0, none⟩)] 78)).rowIs w.heap.size 78 2 (connF Lb id) :=
  World.rowIs_alloc w #[.int .i64 id, .pointer (some ⟨Lb, 0, none⟩)] 78 (connF Lb id) (fun i hi => by
    have e : i = 0 ∨ i = 1 := by simp at hi; omega
    rcases e with rfl | rfl <;> rfl)
theorem cc_row (w : World) (o : Obj) : ((w.alloc o).alloc (.cells (ccRow w.heap.size) 83)).rowIs (w.heap.size + 1) 83 7 (fun i => (ccRow w.heap.size).getD i .nilIface) := by
  have := World.rowIs_alloc (w.alloc o) (ccRow w.heap.size) 83 (fun i => (ccRow w.heap.size).getD i .nilIface) (fun i hi => by
    rw [Array.getD_eq_getD_getElem?, Array.getElem?_eq_getElem hi]; rfl)
  rw [Go.Deep.nblk_alloc] at this
  exact this

theorem build_round {wr w5 : World} {B Lb k : Nat} {id : Int} {v : Value} {ps : List Value} {xs : List Int} (o : Obj) (ho : wr.ownsRow B 75 1 v k ps) (hid : xs.getD k 0 = id)
    (hcn : ∀ j, j < k → Conn wr Lb (ps.getD j .nilIface) (xs.getD j 0))
    (hg : (((wr.alloc (.cells #[.int .i64 id, .pointer (some ⟨Lb, 0, none⟩)] 78)).alloc (.cells (ccRow wr.heap.size) 83)).alloc o).grownBy w5 v.ownBlock) :
    ∀ j, j < k + 1 → Conn w5 Lb ((ps ++ [Value.pointer (some ⟨wr.heap.size + 1, 0, none⟩)]).getD j .nilIface) (xs.getD j 0) := by
  have hlen : ps.length = k := by have := ho.1; omega
  have ho3 := ((ho.alloc (.cells #[.int .i64 id, .pointer (some ⟨Lb, 0, none⟩)] 78)).alloc (.cells (ccRow wr.heap.size) 83)).alloc o
  intro j hj
  by_cases h : j < k
  · have q : (ps ++ [Value.pointer (some ⟨wr.heap.size + 1, 0, none⟩)]).getD j .nilIface = ps.getD j .nilIface := by
      rw [List.getD_eq_getElem?_getD, List.getD_eq_getElem?_getD, List.getElem?_append_left (by omega)]
    rw [q]
    exact (hcn j h).keep (fun b t n G ht hG => grown_row hg ho3 (((hG.alloc _).alloc _).alloc _) (by rcases ht with rfl | rfl <;> decide))
  · have e : j = k := by omega
    subst e
    have q : (ps ++ [Value.pointer (some ⟨wr.heap.size + 1, 0, none⟩)]).getD j .nilIface = Value.pointer (some ⟨wr.heap.size + 1, 0, none⟩) := by
      rw [List.getD_eq_getElem?_getD, List.getElem?_append_right (by omega), hlen, Nat.sub_self]
      rfl
    rw [q, hid]
    exact ⟨wr.heap.size + 1, wr.heap.size, 7, _, rfl, by omega, grown_row hg ho3 ((cc_row wr _).alloc _) (by decide), rfl, grown_row hg ho3 (((conn_row wr Lb id).alloc _).alloc _) (by decide)⟩

/-- The client at C as the law has built it, its idle connections with the ids 'xs'. -/
def Built (w w' : World) (Lb C : Nat) (xs : List Int) : Prop :=
  ∃ F v ps, w.heap.size ≤ C ∧ w'.rowIs C 58 22 F ∧ F 0 = .string ⟨#[97, 58, 49]⟩ ∧ F 19 = .int .i32 0 ∧ F 21 = v ∧
    w'.ownsRow w.heap.size 75 1 v xs.length ps ∧ (∀ j, j < xs.length → Conn w' Lb (ps.getD j .nilIface) (xs.getD j 0)) ∧ Below w.heap.size w w'

theorem built_mk {w wr : World} {Lb : Nat} {xs : List Int} {ps : List Value} {v : Value} (CC : Array Value) (hs : CC.size = 22) (h0 : CC.getD 0 .nilIface = .string ⟨#[97, 58, 49]⟩) (h19 : CC.getD 19 .nilIface = .int .i32 0) (h21 : CC.getD 21 .nilIface = v)
    (ho : wr.ownsRow w.heap.size 75 1 v xs.length ps) (hcn : ∀ j, j < xs.length → Conn wr Lb (ps.getD j .nilIface) (xs.getD j 0)) (hb : Below w.heap.size w wr) : Built w (wr.alloc (.cells CC 58)) Lb wr.heap.size xs := by
  have hr := World.rowIs_alloc wr CC 58 (fun i => CC.getD i .nilIface) (fun i hi => by
    rw [Array.getD_eq_getD_getElem?, Array.getElem?_eq_getElem hi]; rfl)
  rw [hs] at hr
  exact ⟨_, v, ps, hb.size, hr, h0, h19, h21, ho.alloc _, fun j hj => (hcn j hj).keep (fun b t n G _ hG => hG.alloc _), hb.alloc hb.size _⟩

set_option maxRecDepth 100000 in
set_option maxHeartbeats 1000000 in
theorem build_any (q : Value) (xs : List Int) (Lb : Nat) (w : World) (hq : Reads w q xs) (hn : xs.length ≤ 1024) :
    Calls Yba.prog 6 #[q, .pointer (some ⟨Lb, 0, none⟩)] w fun e w' => ∃ C, e = .returned (.pointer (some ⟨C, 0, none⟩)) ∧ Built w w' Lb C xs := by
  obtain ⟨i0, hi0, hz0, hz1, hz2⟩ := info_parts info75
  have HQ : Hid (Reads w q xs) := hq
  obtain ⟨a, cap, rfl, _, _⟩ := hq
  obtain ⟨n, hN⟩ : ∃ n, xs.length = n := ⟨_, rfl⟩
  have HN : Hid (xs.length = n) := hN
  rw [hN] at hn HQ ⊢
  clear hN
  go_enter Yba.func6, Yba.ntmps6
  go_wp2_with (at_make; go_must (refine wpList_make_own _ rfl _ _ 56 rfl w.heap.size 75 i0 _ 1 Yba.underlying56 hi0 hz0 hz1 .i64 .i64 _ n rfl rfl (by omega) (by rw [hz2]; omega) (by unfold maxLen; omega) (Nat.le_refl _) ?_; intro w4 ho4 hg4))
  have hb4 : Below w.heap.size w w4 := (Below.refl _ _).grown hg4 (Nat.le_refl _) (fun k hk => by cases hk)
  clear hg4
  go_loopw [6, 5] (fun i v wr => ∃ k : Nat, k ≤ n ∧ i = .int .i64 k ∧ ∃ ps, wr.ownsRow w.heap.size 75 1 v k ps ∧ (∀ j, j < k → Conn wr Lb (ps.getD j .nilIface) (xs.getD j 0)) ∧ Below w.heap.size w wr) (fun i _ _ => n - (intOf i).toNat)
  case atStart => exact ⟨0, Nat.zero_le _, rfl, [], ho4, fun j hj => absurd hj (by omega), hb4⟩
  case round =>
    clear ho4 hb4
    obtain ⟨k, hk, rfl, ps, ho, hcn, hbel⟩ := hrel
    have hle := hbel.size
    have HO : Hid (wr.ownsRow w.heap.size 75 1 u5 k ps) := ho
    have HC : Hid (∀ j, j < k → Conn wr Lb (ps.getD j .nilIface) (xs.getD j 0)) := hcn
    clear ho hcn
    by_cases hlt : k < n
    · obtain ⟨a', cap', hqe, hrg, hcell⟩ := HQ.out.under hbel (Nat.le_refl _)
      obtain ⟨bq, off, ha, cq⟩ := hcell k (by rw [HN.out]; exact hlt)
      cases hqe
      subst ha
      obtain ⟨id, hid⟩ : ∃ id, xs.getD k 0 = id := ⟨_, rfl⟩
      have hr := hrg k
      rw [hid] at cq hr
      have HID : Hid (xs.getD k 0 = id) := hid
      clear hcell hrg hid
      obtain ⟨r1, r2⟩ := hr
      go_wp2_with (at_builtin; go_must (refine wpList_append_own_at _ rfl (.tmp 16) (.tmp 28) 56 rfl w.heap.size 75 i0 _ 1 8 Yba.underlying56 hi0 hz0 hz1 hz2 rfl (by decide) u5 k ps (by rfl) (((HO.out.alloc _).alloc _).alloc _) ⟨wr.heap.size + 1 + 1, 0, none⟩ 1 1 [.pointer (some ⟨wr.heap.size + 1, 0, none⟩)] (by rfl) (by rfl) (World.news_of_block (cs := #[.pointer (some ⟨wr.heap.size + 1, 0, none⟩)]) (t := 75) (fr := (0, 0)) (heap3 wr _ _ _)) (by simp [Value.oneCell']) (by unfold maxLen; omega) (by omega) (by rw [Go.Deep.nblk_alloc, Go.Deep.nblk_alloc, Go.Deep.nblk_alloc]; omega) ?_; intro v5 w5 ho5 hg5 _ _))
      have hc5 := build_round _ HO.out HID.out HC.out hg5
      have hb5 : Below w.heap.size w w5 := (((hbel.alloc hle _).alloc (by rw [Go.Deep.nblk_alloc]; omega) _).alloc (by rw [Go.Deep.nblk_alloc, Go.Deep.nblk_alloc]; omega) _).grown hg5 (by rw [Go.Deep.nblk_alloc, Go.Deep.nblk_alloc, Go.Deep.nblk_alloc]; omega) (fun k hk => (own_le HO.out hk).1)
      refine ⟨⟨k + 1, by omega, by simp, _, ho5, hc5, hb5⟩, ?_⟩
      simp [intOf]
      omega
    · have hk' : k = n := by omega
      subst hk'
      obtain ⟨a5, cap5, rfl⟩ := own_formT HO.out
      go_wp2
      go_ret
      have e1 := HN.out
      subst e1
      exact ⟨_, rfl, built_mk _ rfl rfl rfl rfl HO.out HC.out hbel⟩

theorem own_mono {w : World} {b b' e n : Nat} {v : Value} {xs : List Value} (h : w.ownsRow b e 1 v n xs) (hb : b' ≤ b) : w.ownsRow b' e 1 v n xs := by
  refine ⟨h.1, ?_⟩
  rcases h.2 with q | ⟨g, cap, cur, hv, hg, rest⟩
  · exact .inl q
  · exact .inr ⟨g, cap, cur, hv, Nat.le_trans hb hg, rest⟩

/-- The client at C behind a CloseIdle: no idle connection, the log (at the block that the law made first) reads 'xs'. -/
def Done (w w2 : World) (C : Nat) (xs : List Int) : Prop :=
  (∃ F, w2.rowIs C 58 22 F ∧ F 0 = .string ⟨#[97, 58, 49]⟩ ∧ F 19 = .int .i32 0 ∧ F 21 = .slice none 0 0) ∧ (∃ lv, LogAt w2 w.heap.size w.heap.size lv xs) ∧ w.heap.size ≤ C ∧ Below w.heap.size w w2

/-- The law's log as it is made. -/
def logCell (w : World) : World := w.alloc (.cells #[.slice none 0 0] 23)

theorem log_made (w : World) : LogAt (logCell w) w.heap.size w.heap.size (.slice none 0 0) [] :=
  ⟨Nat.le_refl _, World.rowIs_alloc w #[.slice none 0 0] 23 (fun _ => .slice none 0 0) (fun i hi => by
    have e : i = 0 := by simp at hi; omega
    subst e; rfl), World.ownsRow_nil _ _ _ _⟩

/-- The first CloseIdle. -/
theorem first_close (w w1 : World) (C : Nat) (xs : List Int) (hB : Built (logCell w) w1 w.heap.size C xs) (hn : xs.length ≤ 1024) :
    Calls Yba.prog 7 #[.pointer (some ⟨C, 0, none⟩)] w1 fun e w' => e = .returned (.tuple #[]) ∧ Done w w' C xs := by
  obtain ⟨F, v, ps, hC, hr, h0, h19, h21, ho, hcn, hb⟩ := hB
  have hsz : (logCell w).heap.size = w.heap.size + 1 := Go.Deep.nblk_alloc _ _
  rw [hsz] at hC ho hb
  have hl : LogAt w1 w.heap.size w.heap.size (.slice none 0 0) [] := ⟨Nat.le_refl _, (log_made w).row.of_block (hb.block _ (by omega)), World.ownsRow_nil _ _ _ _⟩
  have hbw : Below w.heap.size w w1 := ((Below.refl w.heap.size w).alloc (Nat.le_refl _) _).trans (hb.mono (by omega))
  refine (closeIdle_any w.heap.size w.heap.size C _ v F [] xs ps w1 hl (by omega) hr h19 h21 (own_mono ho (by omega)) hcn (by simp; omega)).mono ?_
  rintro e w2 ⟨rfl, hlog, ⟨F', hr', h0', h19', h21'⟩, hb2⟩
  exact ⟨rfl, ⟨F', hr', by rw [h0', h0], h19', h21'⟩, by simpa using hlog, by omega, hbw.trans hb2⟩

/-- A second CloseIdle: nothing is noted. -/
theorem second_close (w w2 : World) (C : Nat) (xs : List Int) (hD : Done w w2 C xs) (hn : xs.length ≤ 1024) :
    Calls Yba.prog 7 #[.pointer (some ⟨C, 0, none⟩)] w2 fun e w' => e = .returned (.tuple #[]) ∧ Done w w' C xs := by
  obtain ⟨⟨F, hr, h0, h19, h21⟩, ⟨lv, hl⟩, hC, hb⟩ := hD
  refine (closeIdle_any w.heap.size w.heap.size C lv (.slice none 0 0) F xs [] [] w2 hl hC hr h19 h21 (World.ownsRow_nil _ _ _ _) (fun j hj => absurd hj (by simp)) (by simp; omega)).mono ?_
  rintro e w3 ⟨rfl, hlog, ⟨F', hr', h0', h19', h21'⟩, hb2⟩
  exact ⟨rfl, ⟨F', hr', by rw [h0', h0], h19', h21'⟩, by simpa using hlog, hC, hb.trans hb2⟩

theorem reads_some {W : World} {a : Addr} {len cap : Nat} {zs : List Int} (hl : len ≤ cap) (hz : zs.length = cap) (hw : ∀ n ∈ zs, (Lit.int .u8 n).wf = true) (hcell : ∀ i, i < zs.length → W.cell? (a.add i) = some (.int .u8 (zs.getD i 0))) :
    Reads W (.slice (some a) len cap) (zs.take len) := by
  have hlen : (zs.take len).length = len := by rw [List.length_take]; omega
  refine ⟨some a, cap, by rw [hlen], fun i => ?_, fun i hi => ?_⟩
  · have := range_u8 (zs := zs.take len) (fun n hn => hw n (List.mem_of_mem_take hn)) i
    rw [List.getD_eq_getElem?_getD]
    exact this
  · rw [hlen] at hi
    obtain ⟨b, off, rfl, hc⟩ := ints_at hcell (by omega)
    refine ⟨b, off, rfl, ?_⟩
    rw [hc i (by omega)]
    simp [hi]

theorem reads_of {H : Type} {enc : TypeId × Value → H} {W : World} {a : Option Addr} {len cap : Nat} {d : DataW H} {pl : List MemPlace}
    (h : DataW.Trod enc Yba.prog W 0 (fun _ => true) true 22 (.slice a len cap) d pl) : ∃ xs, Reads W (.slice a len cap) xs := by
  obtain ⟨fuel, hf⟩ := h
  rcases open_ints Yba.underlying22 Yba.underlying5 (by kernel_rfl) hf with ⟨hcs, _⟩ | ⟨x, l, c, zs, hcs, _, hl, hm, hz, _, hcell, hwz⟩
  · simp [Value.cells] at hcs
    obtain ⟨rfl, rfl, rfl⟩ := hcs
    exact ⟨[], none, 0, rfl, fun i => by simp, fun i hi => absurd hi (by simp)⟩
  · simp [Value.cells] at hcs
    obtain ⟨rfl, rfl, rfl⟩ := hcs
    exact ⟨_, reads_some hl (by simpa using hz) hwz hcell⟩

end Go.Proofs.Ybulkcmcg.Idle
