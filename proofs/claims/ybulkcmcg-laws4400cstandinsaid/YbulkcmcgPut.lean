/-
  SEAT b4400a: the contracts of PutUint64 (16), writeText (17), hex.Encode (18).
-/
import Derived.Test.YbulkcmcgSt
import Derived.Lib.SlBuf
namespace Go.Proofs.Ybulkcmcg.Sec
open Go.ChangeShapes Go.WideShapes Go.ChangeAt Go.RowKit

namespace St
variable {w w1 : World} {base S Hb : Nat} {f : Nat → Value} {x : Nat → Int} {rs : Int} {L : List Int}
theorem set (h : St w base S Hb f x rs L) (j : Nat) (hj : j ≠ 1) (u : Value) : St (w.setCell ⟨S, j, none⟩ u) base S Hb (fun k => if k = j then u else f k) x rs L := by
  obtain ⟨lv, g, hh⟩ := h.hash
  have e : ¬ (1 = j) := fun e => hj e.symm
  exact ⟨h.low, h.row.set j u, by simp only [if_neg e]; exact h.mac, lv, g, hh.low, hh.row.setOther (fun e => h.two e.symm) u, hh.log, hh.cnt, hh.sum, ownsRow_setCell_other hh.own (a := ⟨S, j, none⟩) (own_far hh.own h.row (by decide)) u⟩
theorem setMany (h : St w base S Hb f x rs L) (vs : List Value) (o : Nat) (ho : 2 ≤ o) : St (w.setCells S o vs) base S Hb (fun j => if o ≤ j ∧ j < o + vs.length then vs[j - o]?.getD default else f j) x rs L := by
  obtain ⟨lv, g, hh⟩ := h.hash
  have e : ¬ (o ≤ 1 ∧ 1 < o + vs.length) := by omega
  exact ⟨h.low, rowIs_setCells vs o w f h.row, by simp only [if_neg e]; exact h.mac, lv, g, hh.low, rowIs_setCells_other (fun e => h.two e.symm) _ _ _ hh.row, hh.log, hh.cnt, hh.sum, own_setCells (own_far hh.own h.row (by decide)) _ _ _ hh.own⟩
theorem alloc (h : St w base S Hb f x rs L) (o : Obj) : St (w.alloc o) base S Hb f x rs L := by
  obtain ⟨lv, g, hh⟩ := h.hash
  exact ⟨h.low, h.row.alloc o, h.mac, lv, g, hh.alloc o⟩
theorem drew (h : St w base S Hb f x rs L) : St w.drew base S Hb f x rs L := by
  obtain ⟨lv, g, hh⟩ := h.hash
  exact ⟨h.low, h.row, h.mac, lv, g, hh.drew⟩
theorem drewN (h : St w base S Hb f x rs L) (n : Nat) : St (w.drewN n) base S Hb f x rs L := by
  obtain ⟨lv, g, hh⟩ := h.hash
  exact ⟨h.low, h.row, h.mac, lv, g, hh.low, hh.row, hh.log, hh.cnt, hh.sum, hh.own⟩
theorem low2 (h : St w base S Hb f x rs L) : base ≤ w.heap.size := by have := h.low; have := h.row.lt; omega
end St

/-- The token's eight bytes, the greatest first. -/
def tokL (tok : Int) : List Int := [tok / 72057594037927936 % 256, tok / 281474976710656 % 256, tok / 1099511627776 % 256, tok / 4294967296 % 256, tok / 16777216 % 256, tok / 65536 % 256, tok / 256 % 256, tok % 256]

set_option maxRecDepth 100000 in
set_option maxHeartbeats 1000000 in
theorem put_any (base S Hb : Nat) (f : Nat → Value) (x : Nat → Int) (rs : Int) (L : List Int) (tok : Int) (w : World) (h : St w base S Hb f x rs L) (h0 : 0 ≤ tok) (h1 : tok ≤ 18446744073709551615) :
    Calls Yba.prog 16 #[.agg #[], .slice (some ⟨S, 2, none⟩) 8 64, .int .u64 tok] w fun e w' => e = .returned (.tuple #[]) ∧
      (∃ f', St w' base S Hb f' x rs L ∧ (∀ i, i < 8 → f' (2 + i) = .int .u8 ((tokL tok).getD i 0)) ∧ ∀ j, ¬ (2 ≤ j ∧ j < 10) → f' j = f j) ∧ Below base w w' ∧ Kept S Hb w w' := by
  have HS : Hid (St w base S Hb f x rs L) := h
  have hlt := h.row.lt
  have hne : S ≠ w.heap.size := by omega
  have f2 := h.row.frozen 2
  have f3 := h.row.frozen 3
  have f4 := h.row.frozen 4
  have f5 := h.row.frozen 5
  have f6 := h.row.frozen 6
  have f7 := h.row.frozen 7
  have f8 := h.row.frozen 8
  have f9 := h.row.frozen 9
  have c2 := h.row.cell (i := 2) (by omega)
  have c3 := h.row.cell (i := 3) (by omega)
  have c4 := h.row.cell (i := 4) (by omega)
  have c5 := h.row.cell (i := 5) (by omega)
  have c6 := h.row.cell (i := 6) (by omega)
  have c7 := h.row.cell (i := 7) (by omega)
  have c8 := h.row.cell (i := 8) (by omega)
  have c9 := h.row.cell (i := 9) (by omega)
  clear h
  have HT : Hid (0 ≤ tok ∧ tok ≤ 18446744073709551615) := ⟨h0, h1⟩
  clear h0 h1
  go_enter Yba.func16, Yba.ntmps16
  go_wp2
  go_end0
  refine ⟨rfl, ⟨_, (HS.out.setMany ((tokL tok).map (Value.int .u8)) 2 (Nat.le_refl _)).alloc _, fun i hi => ?_, fun j hj => ?_⟩, (below_setCells HS.out.low ((tokL tok).map (Value.int .u8)) 2 w (Below.refl _ _)).alloc ?_ _, ((Kept.refl S Hb w).setCells (.inl rfl) ((tokL tok).map (Value.int .u8)) 2).alloc _⟩
  · have c : 2 ≤ 2 + i ∧ 2 + i < 2 + ((tokL tok).map (Value.int .u8)).length := by simp [tokL]; omega
    simp only [if_pos c]
    have e : i = 0 ∨ i = 1 ∨ i = 2 ∨ i = 3 ∨ i = 4 ∨ i = 5 ∨ i = 6 ∨ i = 7 := by omega
    rcases e with rfl | rfl | rfl | rfl | rfl | rfl | rfl | rfl <;> rfl
  · have c : ¬ (2 ≤ j ∧ j < 2 + ((tokL tok).map (Value.int .u8)).length) := by simp [tokL]; omega
    simp only [if_neg c]
  · exact (HS.out.setMany ((tokL tok).map (Value.int .u8)) 2 (Nat.le_refl _)).low2

end Go.Proofs.Ybulkcmcg.Sec
