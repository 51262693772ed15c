/-
  SEAT b4400a: the secrets and the stand-in hash in memory; the contracts of the stand-in's Reset (59), Write (61), Sum (60).
-/
import Derived.Test.YbulkcmcgRows
import Derived.WalkKit
import Derived.ProofKit
import Derived.OpenShut
import Derived.Below
import Derived.WalkSmall
import Derived.OneCell
import Derived.Deep.OwnRows
import Derived.Deep.QuietTactic
import Derived.BigQuiet
import Derived.Deep.RegionWith
import Derived.Deep.RegionLaw
import Derived.Deep.DrawnRows
import Derived.Deep.DeepMust
import Derived.Deep.AppendLies
import Derived.Maps.AppendAt
import Derived.ArgAppend
import Derived.Lib.LazyBuf
import Derived.Lib.AppendStr
import Derived.Laws.BytesArg
namespace Go.Proofs.Ybulkcmcg.Sec
open Go.ChangeShapes Go.WideShapes Go.ChangeAt Go.RowKit

theorem info5 : (Yba.prog.info? 5).map (fun i => (i.zero, i.size, i.bytes)) = some (some (.int .u8 0), 1, 1) := by kernel_rfl
theorem ones (ys : List Int) : ∀ u ∈ ys.map (Value.int .u8), u.oneCell' = true := by
  intro u hu
  obtain ⟨x, _, rfl⟩ := List.mem_map.1 hu
  rfl

/-- The blocks that are neither S nor Hb, and hold no bytes of a slice, are as they were. -/
structure Kept (S Hb : Nat) (w w' : World) : Prop where
  size : w.heap.size ≤ w'.heap.size
  blk : ∀ k, k < w.heap.size → k ≠ S → k ≠ Hb → (∀ cs fr, w.heap[k]? ≠ some (.cells cs 5 fr)) → w'.heap[k]? = w.heap[k]?

namespace Kept
variable {S Hb : Nat} {w w1 w2 : World}
theorem refl (S Hb : Nat) (w : World) : Kept S Hb w w := ⟨Nat.le_refl _, fun _ _ _ _ _ => rfl⟩
theorem trans (h : Kept S Hb w w1) (k : Kept S Hb w1 w2) : Kept S Hb w w2 :=
  ⟨Nat.le_trans h.size k.size, fun i a b c d => by
    have e := h.blk i a b c d
    rw [k.blk i (Nat.lt_of_lt_of_le a h.size) b c (by rw [e]; exact d), e]⟩
theorem drewN (h : Kept S Hb w w1) (n : Nat) : Kept S Hb w (w1.drewN n) := ⟨h.size, h.blk⟩
theorem drew (h : Kept S Hb w w1) : Kept S Hb w w1.drew := ⟨h.size, h.blk⟩
theorem alloc (h : Kept S Hb w w1) (o : Obj) : Kept S Hb w (w1.alloc o) :=
  h.trans ⟨by rw [Go.Deep.nblk_alloc]; omega, fun k hk _ _ _ => Below.heap_alloc _ _ _ hk⟩
theorem setCell (h : Kept S Hb w w1) {a : Addr} (ha : a.block = S ∨ a.block = Hb) (u : Value) : Kept S Hb w (w1.setCell a u) :=
  h.trans ⟨by simp [World.setCell], fun k _ h1 h2 _ => Below.heap_setCell _ _ _ _ (by rcases ha with e | e <;> omega)⟩
theorem setCells (h : Kept S Hb w w1) {b : Nat} (hb : b = S ∨ b = Hb) : ∀ (vs : List Value) (o : Nat), Kept S Hb w (w1.setCells b o vs) := by
  intro vs
  induction vs generalizing w1 with
  | nil => intro o; exact h
  | cons v r ih => intro o; exact ih (h.setCell (by exact hb) v) (o + 1)
theorem grown {base n : Nat} {v : Value} {xs : List Value} (h : Kept S Hb w w1) (ho : w1.ownsRow base 5 1 v n xs) (hg : w1.grownBy w2 v.ownBlock) : Kept S Hb w w2 :=
  h.trans ⟨hg.size, fun k hk _ _ h5 => hg.block k hk (fun e => by
    rcases ho.2 with ⟨rfl, _⟩ | ⟨g, cap, cur, rfl, _, hgg, _⟩
    · simp [Value.ownBlock] at e
    · simp only [Value.ownBlock, Option.some.injEq] at e
      subst e
      exact h5 _ _ hgg)⟩
theorem row {b t n : Nat} {f : Nat → Value} (h : Kept S Hb w w1) (hr : w.rowIs b t n f) (h1 : b ≠ S) (h2 : b ≠ Hb) (h5 : t ≠ 5) : w1.rowIs b t n f :=
  hr.of_block (h.blk b hr.lt h1 h2 (fun cs fr e => by
    obtain ⟨c, hc, _⟩ := hr
    rw [e] at hc
    simp at hc
    exact h5 hc.2.1.symm))
end Kept

theorem own_far {w : World} {base b t n : Nat} {v : Value} {m : Nat} {xs : List Value} {f : Nat → Value} (h : w.ownsRow base 5 1 v m xs) (hr : w.rowIs b t n f) (ht : t ≠ 5) : v.ownBlock ≠ some b := by
  obtain ⟨c, hc, _⟩ := hr
  rcases h.2 with ⟨rfl, _⟩ | ⟨g, cap, cur, rfl, _, hg, _⟩
  · simp [Value.ownBlock]
  · intro e
    simp only [Value.ownBlock, Option.some.injEq] at e
    subst e
    rw [hg] at hc
    simp at hc
    exact ht hc.2.symm

theorem own_le {w : World} {base n g : Nat} {v : Value} {xs : List Value} (h : w.ownsRow base 5 1 v n xs) (e : v.ownBlock = some g) : base ≤ g ∧ g < w.heap.size := by
  rcases h.2 with ⟨rfl, _⟩ | ⟨g', cap, cur, rfl, hb, hg, _⟩
  · simp [Value.ownBlock] at e
  · simp only [Value.ownBlock, Option.some.injEq] at e
    subst e
    exact ⟨hb, lt_of_block hg⟩
theorem own_form {w : World} {base n : Nat} {v : Value} {xs : List Value} (h : w.ownsRow base 5 1 v n xs) : ∃ a cap, v = .slice a n cap := by
  rcases h.2 with ⟨rfl, rfl⟩ | ⟨g, cap, cur, rfl, _⟩
  · exact ⟨none, 0, rfl⟩
  · exact ⟨_, cap, rfl⟩

theorem grown_row {w w1 : World} {base b t n : Nat} {v : Value} {m : Nat} {xs : List Value} {f : Nat → Value} (hg : w.grownBy w1 v.ownBlock) (h : w.ownsRow base 5 1 v m xs) (hr : w.rowIs b t n f) (ht : t ≠ 5) : w1.rowIs b t n f :=
  hr.of_block (hg.block b hr.lt (fun e => own_far h hr ht e.symm))

theorem own_setCells {base b n : Nat} {v : Value} {xs : List Value} (hne : v.ownBlock ≠ some b) : ∀ (vs : List Value) (o : Nat) (w : World), w.ownsRow base 5 1 v n xs → (w.setCells b o vs).ownsRow base 5 1 v n xs
  | [], _, _, h => h
  | u :: r, o, _, h => own_setCells hne r (o + 1) _ (ownsRow_setCell_other h (a := ⟨b, o, none⟩) hne u)

/-- The stand-in hash at block Hb: its log 'lv' holds the bytes L, 'rs' resets, the sum x. -/
structure HashAt (w : World) (base Hb : Nat) (x : Nat → Int) (rs : Int) (lv : Value) (L : List Int) (g : Nat → Value) : Prop where
  low : base ≤ Hb
  row : w.rowIs Hb 64 34 g
  log : g 0 = lv
  cnt : g 1 = .int .i64 rs
  sum : ∀ i, i < 32 → g (2 + i) = .int .u8 (x i)
  own : w.ownsRow base 5 1 lv L.length (L.map (Value.int .u8))

/-- The secrets at block S with the hash at block Hb. -/
structure St (w : World) (base S Hb : Nat) (f : Nat → Value) (x : Nat → Int) (rs : Int) (L : List Int) : Prop where
  low : base ≤ S
  row : w.rowIs S 69 98 f
  mac : f 1 = .iface 62 (.pointer (some ⟨Hb, 0, none⟩))
  hash : ∃ lv g, HashAt w base Hb x rs lv L g

theorem HashAt.drew {w : World} {base Hb : Nat} {x : Nat → Int} {rs : Int} {lv : Value} {L : List Int} {g : Nat → Value} (h : HashAt w base Hb x rs lv L g) : HashAt w.drew base Hb x rs lv L g := ⟨h.low, h.row, h.log, h.cnt, h.sum, h.own⟩
theorem HashAt.alloc {w : World} {base Hb : Nat} {x : Nat → Int} {rs : Int} {lv : Value} {L : List Int} {g : Nat → Value} (h : HashAt w base Hb x rs lv L g) (o : Obj) : HashAt (w.alloc o) base Hb x rs lv L g := ⟨h.low, h.row.alloc o, h.log, h.cnt, h.sum, h.own.alloc o⟩
theorem HashAt.low2 {w : World} {base Hb : Nat} {x : Nat → Int} {rs : Int} {lv : Value} {L : List Int} {g : Nat → Value} (h : HashAt w base Hb x rs lv L g) : base ≤ w.heap.size := by
  have := h.low; have := h.row.lt; omega

theorem HashAt.push {w w1 : World} {base Hb : Nat} {x : Nat → Int} {rs : Int} {lv v1 : Value} {L ys : List Int} {g : Nat → Value} {S : Nat} (h : HashAt w base Hb x rs lv L g)
    (ho : w1.ownsRow base 5 1 v1 (L.length + ys.length) (L.map (Value.int .u8) ++ ys.map (Value.int .u8))) (hg : w.grownBy w1 lv.ownBlock) :
    HashAt (w1.setCell ⟨Hb, 0, none⟩ v1) base Hb x rs v1 (L ++ ys) (fun j => if j = 0 then v1 else g j) ∧ Below base w (w1.setCell ⟨Hb, 0, none⟩ v1) ∧ Kept S Hb w (w1.setCell ⟨Hb, 0, none⟩ v1) := by
  have hr1 : w1.rowIs Hb 64 34 g := grown_row hg h.own h.row (by decide)
  refine ⟨⟨h.low, hr1.set 0 v1, by simp, by simp [h.cnt], fun i hi => ?_, ?_⟩, ?_, ?_⟩
  · have e : ¬ (2 + i = 0) := by omega
    simp only [if_neg e, h.sum i hi]
  · have := ownsRow_setCell_other ho (a := ⟨Hb, 0, none⟩) (own_far ho hr1 (by decide)) v1
    simpa using this
  · exact ((Below.refl _ _).grown hg h.low2 (fun k hk => (own_le h.own hk).1)).setCell h.low _
  · exact ((Kept.refl S Hb w).grown h.own hg).setCell (.inr rfl) _

theorem St.cell {w : World} {base S Hb : Nat} {f : Nat → Value} {x : Nat → Int} {rs : Int} {L : List Int} (h : St w base S Hb f x rs L) : w.cell? ⟨S, 1, none⟩ = some (.iface 62 (.pointer (some ⟨Hb, 0, none⟩))) := by
  rw [h.row.cell (by omega), h.mac]

/-- The secrets' row beside the hash: it stays where the log grows and the hash is written. -/
theorem St.of_hash {w w1 : World} {base S Hb : Nat} {f : Nat → Value} {x : Nat → Int} {rs rs' : Int} {L L' : List Int} {lv' : Value} {g' : Nat → Value} (h : St w base S Hb f x rs L) (hr : w1.rowIs S 69 98 f) (hh : HashAt w1 base Hb x rs' lv' L' g') :
    St w1 base S Hb f x rs' L' := ⟨h.low, hr, h.mac, lv', g', hh⟩

theorem St.two {w : World} {base S Hb : Nat} {f : Nat → Value} {x : Nat → Int} {rs : Int} {L : List Int} (h : St w base S Hb f x rs L) : S ≠ Hb := by
  obtain ⟨lv, g, hh⟩ := h.hash
  obtain ⟨c, hc, _⟩ := h.row
  obtain ⟨c', hc', _⟩ := hh.row
  intro e
  subst e
  rw [hc] at hc'
  simp at hc'

set_option maxHeartbeats 1000000 in
theorem write_any (base S Hb : Nat) (f : Nat → Value) (x : Nat → Int) (rs : Int) (L ys : List Int) (ad : Addr) (n c : Nat) (w : World) (h : St w base S Hb f x rs L)
    (hsrc : ∀ j u, (ys.map (Value.int .u8))[j]? = some u → w.cell? (ad.add j) = some u) (hn : ys.length = n) (hb : L.length + n ≤ 100000) :
    Calls Yba.prog 61 #[.pointer (some ⟨Hb, 0, none⟩), .slice (some ad) n c] w fun e w' => e = .returned (.tuple #[.int .i64 n, .nilIface]) ∧ St w' base S Hb f x rs (L ++ ys) ∧ Below base w w' ∧ Kept S Hb w w' := by
  obtain ⟨i0, hi0, hz0, hz1, hz2⟩ := info_parts info5
  have HS : Hid (St w base S Hb f x rs L) := h
  obtain ⟨lv, g, hh⟩ := h.hash
  have HH : Hid (HashAt w base Hb x rs lv L g) := hh
  have hbase := hh.low2
  have c0 : w.cell? ⟨Hb, 0, none⟩ = some lv := by rw [hh.row.cell (by omega), hh.log]
  clear h hh
  subst hn
  go_enter Yba.func61, Yba.ntmps61
  go_wp2_with (at_builtin; go_must (refine wpList_append_own_at _ rfl (.tmp 10) (.tmp 11) 22 rfl base 5 i0 _ 1 1 Yba.underlying22 hi0 hz0 hz1 hz2 rfl (by decide) lv L.length _ (by rfl) HH.out.own ad ys.length c _ (by rfl) (by simp) hsrc (ones ys) (by unfold maxLen; omega) (by omega) hbase ?_; intro v1 w1 ho hg _ _; obtain ⟨a1, cap1, rfl⟩ := own_form ho; have hr1 := grown_row hg HH.out.own HH.out.row (by decide); have k1 := hr1.cell (i := 0) (by omega); have k2 := hr1.frozen 0; obtain ⟨H2, hb2, hk2⟩ := HH.out.push (S := S) ho hg; have hrS := (grown_row hg HH.out.own HS.out.row (by decide)).setOther (a := ⟨Hb, 0, none⟩) HS.out.two (.slice a1 (L.length + ys.length) cap1); have HST := HS.out.of_hash hrS H2; clear H2 ho hg hr1 hrS))
  go_ret2
  exact ⟨rfl, HST, hb2, hk2⟩

set_option maxHeartbeats 1000000 in
theorem reset_any (base S Hb : Nat) (f : Nat → Value) (x : Nat → Int) (rs : Int) (L : List Int) (w : World) (h : St w base S Hb f x rs L) (h0 : 0 ≤ rs) (h1 : rs ≤ 1000) :
    Calls Yba.prog 59 #[.pointer (some ⟨Hb, 0, none⟩)] w fun e w' => e = .returned (.tuple #[]) ∧ St w' base S Hb f x (rs + 1) [] ∧ Below base w w' ∧ Kept S Hb w w' := by
  have HS : Hid (St w base S Hb f x rs L) := h
  obtain ⟨lv, g, hh⟩ := h.hash
  have HH : Hid (HashAt w base Hb x rs lv L g) := hh
  have c0 := hh.row.cell (i := 0) (by omega)
  have c1 : w.cell? ⟨Hb, 1, none⟩ = some (.int .i64 rs) := by rw [hh.row.cell (by omega), hh.cnt]
  have f0 := hh.row.frozen 0
  have f1 := hh.row.frozen 1
  clear h hh
  go_enter Yba.func59, Yba.ntmps59
  go_wp2
  go_end0
  have hr := (HH.out.row.set 0 (.slice none 0 0)).set 1 (.int .i64 (rs + 1))
  refine ⟨rfl, HS.out.of_hash ((HS.out.row.setOther (a := ⟨Hb, 0, none⟩) HS.out.two _).setOther (a := ⟨Hb, 1, none⟩) HS.out.two _) ⟨HH.out.low, hr, by simp, by simp, fun i hi => ?_, World.ownsRow_nil _ _ _ _⟩, ?_, ?_⟩
  · have e1 : ¬ (2 + i = 1) := by omega
    have e2 : ¬ (2 + i = 0) := by omega
    simp only [if_neg e1, if_neg e2, HH.out.sum i hi]
  · exact ((Below.refl _ _).setCell (p := ⟨Hb, 0, none⟩) HH.out.low _).setCell (p := ⟨Hb, 1, none⟩) HH.out.low _
  · exact ((Kept.refl S Hb w).setCell (a := ⟨Hb, 0, none⟩) (.inr rfl) _).setCell (a := ⟨Hb, 1, none⟩) (.inr rfl) _

def sumL (x : Nat → Int) : List Int := (List.range 32).map x

set_option maxRecDepth 100000 in
set_option maxHeartbeats 1000000 in
theorem sum_any (base S Hb : Nat) (f : Nat → Value) (x : Nat → Int) (rs : Int) (L : List Int) (w : World) (h : St w base S Hb f x rs L) :
    Calls Yba.prog 60 #[.pointer (some ⟨Hb, 0, none⟩), .slice (some ⟨S, 66, none⟩) 0 32] w fun e w' => e = .returned (.slice (some ⟨S, 66, none⟩) 32 32) ∧
      (∃ f', St w' base S Hb f' x rs L ∧ (∀ i, i < 32 → f' (66 + i) = .int .u8 (x i)) ∧ ∀ j, j < 66 → f' j = f j) ∧ Below base w w' ∧ Kept S Hb w w' := by
  obtain ⟨i0, hi0, hz0, hz1, hz2⟩ := info_parts info5
  have HS : Hid (St w base S Hb f x rs L) := h
  obtain ⟨lv, g, hh⟩ := h.hash
  have HH : Hid (HashAt w base Hb x rs lv L g) := hh
  have hlen : ((sumL x).map (Value.int .u8)).length = 32 := by simp [sumL]
  have HL : Hid (((sumL x).map (Value.int .u8)).length = 32 * 1) := hlen
  have HSRC : Hid (∀ j u, ((sumL x).map (Value.int .u8))[j]? = some u → w.cell? ((⟨Hb, 2, none⟩ : Addr).add j) = some u) := by
    intro j u hj
    have hj32 : j < 32 := by
      rcases Nat.lt_or_ge j 32 with h' | h'
      · exact h'
      · rw [List.getElem?_eq_none (by rw [hlen]; exact h')] at hj; cases hj
    rw [show (⟨Hb, 2, none⟩ : Addr).add j = ⟨Hb, 2 + j, none⟩ from by unfold Addr.add; split <;> simp_all, hh.row.cell (by omega), hh.sum j hj32]
    simpa [sumL, hj32] using hj
  have HSP : Hid (∀ j, j < ((sumL x).map (Value.int .u8)).length → (w.cell? ⟨S, 66 + 0 * 1 + j, none⟩).isSome = true ∧ w.frozen? ⟨S, 66 + 0 * 1 + j, none⟩ = false) := by
    intro j hj
    rw [hlen] at hj
    exact ⟨by rw [h.row.cell (by omega)]; rfl, h.row.frozen _⟩
  have HN : Hid (∀ j u, ([] : List Value)[j]? = some u → w.cell? ⟨S, 66 + j, none⟩ = some u) := fun j u hj => by simp at hj
  clear h hh hlen
  go_enter Yba.func60, Yba.ntmps60
  go_wp2_with (at_builtin; go_must (refine wpList_append_arg _ rfl (.tmp 5) (.tmp 9) 22 rfl 5 i0 _ 1 1 Yba.underlying22 hi0 hz0 hz1 hz2 rfl (by decide) S 66 0 32 [] (by rfl) (by rfl) HN.out ⟨Hb, 2, none⟩ 32 32 ((sumL x).map (Value.int .u8)) (by rfl) HL.out HSRC.out (ones (sumL x)) (fun _ => HSP.out) (by unfold maxLen; omega) (by omega) (fun _ => ?_) (fun hbad => absurd hbad (by omega))))
  go_ret
  have hrS := rowIs_setCells ((sumL x).map (Value.int .u8)) 66 w f HS.out.row
  rw [show ((sumL x).map (Value.int .u8)).length = 32 from HL.out] at hrS
  refine ⟨rfl, ⟨_, ⟨HS.out.low, hrS, by simpa using HS.out.mac, lv, g, HH.out.low, rowIs_setCells_other (fun e => HS.out.two e.symm) _ _ _ HH.out.row, HH.out.log, HH.out.cnt, HH.out.sum, ?_⟩, fun i hi => ?_, fun j hj => ?_⟩, below_setCells HS.out.low _ _ _ (Below.refl _ _), (Kept.refl S Hb w).setCells (.inl rfl) _ _⟩
  · exact own_setCells (own_far HH.out.own HS.out.row (by decide)) _ _ _ HH.out.own
  · have c : 66 ≤ 66 + i ∧ 66 + i < 66 + 32 := by omega
    simp only [if_pos c]
    simp [sumL, hi]
  · have c : ¬ (66 ≤ j ∧ j < 66 + 32) := by omega
    simp only [if_neg c]

end Go.Proofs.Ybulkcmcg.Sec
