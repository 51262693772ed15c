/-
  SEAT b4400a: the contract of (*secrets).match (9).
-/
import Derived.Test.YbulkcmcgWrite
import Derived.Laws.IdiomStrings
namespace Go.Proofs.Ybulkcmcg.Sec
open Go.ChangeShapes Go.WideShapes Go.ChangeAt Go.RowKit

def hexA (z : Nat → Nat) (j : Nat) : Nat := (hexN z j).toNat
theorem dig_range (n : Nat) : 0 ≤ digL.getD n 0 ∧ digL.getD n 0 < 256 := by
  rcases Nat.lt_or_ge n 16 with h | h
  · revert h; revert n; decide
  · rw [List.getD_eq_getElem?_getD, List.getElem?_eq_none (by simpa [digL] using h)]; decide
theorem hexA_cast (z : Nat → Nat) (j : Nat) : (hexA z j : Int) = hexN z j := by
  have := (dig_range (if j % 2 = 0 then z (j / 2) / 16 else z (j / 2) % 16)).1
  unfold hexA hexN
  omega
theorem hexA_lt (z : Nat → Nat) (j : Nat) : hexA z j < 256 := by
  have := dig_range (if j % 2 = 0 then z (j / 2) / 16 else z (j / 2) % 16)
  unfold hexA hexN
  omega
def byteAt (s : ByteArray) (i : Nat) : Nat := (s.data.toList.getD i 0).toNat
theorem byteAt_lt (s : ByteArray) (i : Nat) : byteAt s i < 256 := UInt8.toNat_lt _

theorem bytesRow_at (s : ByteArray) (cap i : Nat) (hi : i < s.size) : (bytesRow s cap)[i]? = some (.int .u8 (byteAt s i : Int)) := by
  have h : i < s.data.size := hi
  rw [bytesRow, Array.getElem?_append_left (by simpa using h), Array.getElem?_map, Array.getElem?_eq_getElem h]
  simp only [Option.map_some, byteAt, List.getD_eq_getElem?_getD, Array.getElem?_toList, Array.getElem?_eq_getElem h, Option.getD_some]

theorem fresh_cell (w : World) (C : Array Value) (t : TypeId) (fr : Nat × Nat) (i : Nat) : (w.alloc (.cells C t fr)).cell? ⟨w.heap.size, i, none⟩ = C[i]? := by
  rw [cell_of_row _ w.heap.size i C t fr (heap_alloc_new w _)]

def zeros32 : Array Value := #[.int .u8 0, .int .u8 0, .int .u8 0, .int .u8 0, .int .u8 0, .int .u8 0, .int .u8 0, .int .u8 0, .int .u8 0, .int .u8 0, .int .u8 0, .int .u8 0, .int .u8 0, .int .u8 0, .int .u8 0, .int .u8 0,
  .int .u8 0, .int .u8 0, .int .u8 0, .int .u8 0, .int .u8 0, .int .u8 0, .int .u8 0, .int .u8 0, .int .u8 0, .int .u8 0, .int .u8 0, .int .u8 0, .int .u8 0, .int .u8 0, .int .u8 0, .int .u8 0]
theorem zeros32_eq : zeros32 = Array.replicate 32 (.int .u8 0) := rfl
def keyF (name : ByteArray) (tok : Int) (sec client : ByteArray) (i : Nat) : Value := (#[.string name, .int .u64 tok, .string sec, .string ⟨#[]⟩, .string client] : Array Value).getD i (.int .u8 0)

theorem key_row (w : World) (name : ByteArray) (tok : Int) (sec client : ByteArray) : ((w.alloc (.cells #[.string name, .int .u64 tok, .string sec, .string ⟨#[]⟩, .string client] 72)).alloc (.cells zeros32 60)).rowIs w.heap.size 72 5 (keyF name tok sec client) :=
  (World.rowIs_alloc w #[.string name, .int .u64 tok, .string sec, .string ⟨#[]⟩, .string client] 72 (keyF name tok sec client) (fun i hi => by
    have h5 : i < 5 := hi
    have e : i = 0 ∨ i = 1 ∨ i = 2 ∨ i = 3 ∨ i = 4 := by omega
    rcases e with rfl | rfl | rfl | rfl | rfl <;> rfl)).alloc _
theorem want_row (w : World) (name : ByteArray) (tok : Int) (sec client : ByteArray) : ((w.alloc (.cells #[.string name, .int .u64 tok, .string sec, .string ⟨#[]⟩, .string client] 72)).alloc (.cells zeros32 60)).rowIs (w.heap.size + 1) 60 32 (fun _ => .int .u8 0) := by
  have := World.rowIs_alloc (w.alloc (.cells #[.string name, .int .u64 tok, .string sec, .string ⟨#[]⟩, .string client] 72)) zeros32 60 (fun _ => .int .u8 0) (fun i hi => by rw [zeros32_eq] at hi ⊢; rw [Array.getElem?_replicate, if_pos (by simpa using hi)])
  rw [Go.Deep.nblk_alloc] at this
  exact this

set_option maxRecDepth 100000 in
set_option maxHeartbeats 1000000 in
theorem match_any (base S Hb : Nat) (f : Nat → Value) (z : Nat → Nat) (L : List Int) (tok : Int) (name client sec : ByteArray) (w : World) (h : St w base S Hb f (fun i => (z i : Int)) 0 L) (hz : ∀ i, z i ≤ 255)
    (h0 : 0 ≤ tok) (h1 : tok ≤ 18446744073709551615) (b1 : name.size ≤ 4096) (b2 : client.size ≤ 4096) (b3 : sec.size ≤ 4096) :
    Calls Yba.prog 9 #[.pointer (some ⟨S, 0, none⟩), .agg #[.string name, .int .u64 tok, .string sec, .string ⟨#[]⟩, .string client]] w fun e w' => e = .returned (.bool (eqB (hexA z) (byteAt sec) sec.size)) ∧
      (∃ f', St w' base S Hb f' (fun i => (z i : Int)) 1 (fed tok name client)) ∧ Below base w w' := by
  have HS : Hid (St w base S Hb f (fun i => (z i : Int)) 0 L) := h
  have HT : Hid (0 ≤ tok ∧ tok ≤ 18446744073709551615) := ⟨h0, h1⟩
  have hS := h.row.lt
  clear h h0 h1
  go_enter Yba.func9, Yba.ntmps9
  go_wp2_with fail
  have HW0 := key_row w name tok sec client
  have HW1 := want_row w name tok sec client
  have HST := (HS.out.alloc (.cells #[.string name, .int .u64 tok, .string sec, .string ⟨#[]⟩, .string client] 72)).alloc (.cells zeros32 60)
  have HB0 : Below base w ((w.alloc (.cells #[.string name, .int .u64 tok, .string sec, .string ⟨#[]⟩, .string client] 72)).alloc (.cells zeros32 60)) := ((Below.refl _ _).alloc HS.out.low2 _).alloc (by rw [Go.Deep.nblk_alloc]; have := HS.out.low2; omega) _
  have hH : Hb < w.heap.size := by obtain ⟨lv, g, hh⟩ := HS.out.hash; exact hh.row.lt
  have hbs := HS.out.low2
  refine (write12_any base S Hb (w.heap.size + 1) f (fun _ => .int .u8 0) z L tok name client _ (by exact HST) (by exact HW1) hz HT.out.1 HT.out.2 b1 b2 (by omega) (by omega) (by omega)).mono ?_
  rintro e w1 ⟨rfl, ⟨f1, hs1⟩, hr1, hb1, hkeep⟩
  have hb01 := HB0.trans hb1
  have hk1 := hkeep w.heap.size 72 5 _ (by omega) (by omega) (by omega) (by decide) HW0
  have c2 : w1.cell? ⟨w.heap.size, 2, none⟩ = some (.string sec) := hk1.cell (by omega)
  have HS1 : Hid (St w1 base S Hb f1 (fun i => (z i : Int)) 1 (fed tok name client)) := hs1
  have HR1 : Hid (w1.rowIs (w.heap.size + 1) 60 32 (hexF (fun _ => .int .u8 0) z 16)) := hr1
  have l1 := hr1.lt
  have hcv : ∀ w : World, (convert 9 22 (.string sec)).run Yba.prog w = .ok (.slice (some ⟨w.heap.size, 0, none⟩) sec.size (grownCap w sec.size 0 5)) (w.drew.alloc (.cells (bytesRow sec (grownCap w sec.size 0 5)) 5 ((bytesRow sec (grownCap w sec.size 0 5)).size, (bytesRow sec (grownCap w sec.size 0 5)).size + 1))) :=
    fun w => run_bytes_of_string w 9 22 5 sec Yba.underlying9 Yba.underlying22 Yba.underlying5
  clear hs1 hr1 hb1 hkeep hk1 HW0 HW1 HST HB0
  have HA : Hid (∀ cap fr i, i < 32 → (w1.alloc (.cells (bytesRow sec cap) 5 fr)).drew.drew.cell? ⟨w.heap.size + 1, i, none⟩ = some (.int .u8 (hexA z i : Int))) := fun cap fr i hi => by
    have h := (HR1.out.alloc (.cells (bytesRow sec cap) 5 fr)).cell hi
    rw [hexA_cast]
    simpa [hexF, hi] using h
  have HB : Hid (∀ cap fr i, i < sec.size → (w1.alloc (.cells (bytesRow sec cap) 5 fr)).drew.drew.cell? ⟨w1.heap.size, i, none⟩ = some (.int .u8 (byteAt sec i : Int))) := fun cap fr i hi =>
    (fresh_cell w1 _ 5 fr i).trans (bytesRow_at sec cap i hi)
  have hlow1 := HS1.out.low2
  cases hE : eqB (hexA z) (byteAt sec) sec.size
  all_goals
    have HEE : Hid (eqB (hexA z) (byteAt sec) sec.size = _) := hE
    clear hE
    go_wp2_with fail
    go_region_with (go_at_call 13; go_must (refine (cmp13_any (w.heap.size + 1) w1.heap.size sec.size _ (hexA z) (byteAt sec) _ (fun i hi => HA.out _ _ i hi) (fun i hi => HB.out _ _ i hi) (fun i _ => hexA_lt z i) (fun i _ => byteAt_lt sec i) (by omega)).mono ?_; rintro e w2 ⟨he, q, rfl⟩; rw [HEE.out] at he; simp only [Bool.false_eq_true, if_false, if_true] at he; subst he))
    go_wp2
    go_ret
    exact ⟨by rw [HEE.out]; rfl, ⟨f1, (HS1.out.alloc _).drewN _⟩, below_drewN (hb01.alloc hlow1 _) _⟩

end Go.Proofs.Ybulkcmcg.Sec
