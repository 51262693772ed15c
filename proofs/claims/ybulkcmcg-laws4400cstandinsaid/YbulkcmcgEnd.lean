/-
  SEAT b4400a: the plain laws behind LawS4400CStandIn's last line.
-/
import Derived.Test.YbulkcmcgMatch
namespace Go.Proofs.Ybulkcmcg.Sec
open Go.ChangeShapes Go.WideShapes Go.ChangeAt Go.RowKit

theorem hex_bytes (z : Nat → Nat) : (strOfNums (hexL z 16)).toList = (List.range 32).map fun j => UInt8.ofNat (hexA z j) := by
  rw [ByteArray.toList_eq, strOfNums_data, hexL, List.map_map]
  rfl

/-- The byte compare tells whether the text is the wanted one. -/
theorem sec_is (z : Nat → Nat) (sec : ByteArray) : eqB (hexA z) (byteAt sec) sec.size = (sec.toList == (strOfNums (hexL z 16)).toList) := by
  rw [hex_bytes, Bool.eq_iff_iff, eqB_iff, beq_iff_eq, ByteArray.toList_eq]
  have hs : sec.data.toList.length = sec.size := by rw [Array.length_toList]; rfl
  constructor
  · rintro ⟨h, hh⟩
    refine List.ext_getElem (by rw [hs, h, List.length_map, List.length_range]) (fun i h1 h2 => ?_)
    rw [List.getElem_map, List.getElem_range, hh i (by omega), byteAt, List.getD_eq_getElem?_getD, List.getElem?_eq_getElem h1]
    simp
  · intro h
    have h32 : sec.size = 32 := by rw [← hs, h, List.length_map, List.length_range]
    refine ⟨h32, fun i hi => ?_⟩
    have hb := hexA_lt z i
    rw [byteAt, h, List.getD_eq_getElem?_getD, List.getElem?_eq_getElem (by simpa using hi)]
    simp only [List.getElem_map, List.getElem_range, Option.getD_some]
    rw [UInt8.toNat_ofNat']
    omega

theorem own_conv {w : World} {base n g c : Nat} {xs : List Int} (h : w.ownsRow base 5 1 (.slice (some ⟨g, 0, none⟩) n c) n (xs.map (Value.int .u8))) (hn : xs.length = n) :
    ∀ nq, (convert 22 9 (.slice (some ⟨g, 0, none⟩) n c)).run Yba.prog (w.drewN nq) = .ok (.string (strOfNums xs)) (w.drewN nq) := fun nq => by
  refine run_convert_bytes_arg (w.drewN nq) 22 5 Yba.underlying22 Yba.underlying5 g 0 n c xs hn (fun i hi => ?_) 9 Yba.underlying9
  rw [Nat.zero_add]
  refine (h.cellAt i (by omega)).trans ?_
  rw [List.getElem?_map, List.getElem?_eq_getElem (by omega), List.getD_eq_getElem?_getD, List.getElem?_eq_getElem (by omega)]
  rfl

theorem own_up {w w' : World} {base n : Nat} {v : Value} {xs : List Value} (h : w.ownsRow base 5 1 v n xs) (hb : Below w.heap.size w w') : w'.ownsRow base 5 1 v n xs := by
  refine ⟨h.1, ?_⟩
  rcases h.2 with e | ⟨g, cap, cur, hv, hbg, hg, rest⟩
  · exact .inl e
  · exact .inr ⟨g, cap, cur, hv, hbg, by rw [hb.block g (lt_of_block hg)]; exact hg, rest⟩

/-- What the last line reads. -/
theorem end_facts {w3 w6 : World} {base S Hb : Nat} {f : Nat → Value} {x : Nat → Int} {L : List Int} {v : Value} (h : St w3 base S Hb f x 1 L) (hb : Below w3.heap.size w3 w6) (ho : w6.ownsRow w3.heap.size 5 1 v L.length (L.map (Value.int .u8))) (hL : 0 < L.length) :
    ∃ gl c1 ge c2 n, v = .slice (some ⟨ge, 0, none⟩) n c2 ∧ w6.cell? ⟨Hb, 0, none⟩ = some (.slice (some ⟨gl, 0, none⟩) n c1) ∧ w6.cell? ⟨Hb, 1, none⟩ = some (.int .i64 1)
      ∧ (∀ nq, (convert 22 9 (.slice (some ⟨gl, 0, none⟩) n c1)).run Yba.prog (w6.drewN nq) = .ok (.string (strOfNums L)) (w6.drewN nq))
      ∧ (∀ nq, (convert 22 9 (.slice (some ⟨ge, 0, none⟩) n c2)).run Yba.prog (w6.drewN nq) = .ok (.string (strOfNums L)) (w6.drewN nq)) := by
  obtain ⟨lv, g, hh⟩ := h.hash
  have hr : w6.rowIs Hb 64 34 g := hh.row.of_block (hb.block Hb hh.row.lt)
  have hl := own_up hh.own hb
  rcases hl.2 with ⟨_, e⟩ | ⟨gl, c1, cur, rfl, _⟩
  · omega
  rcases ho.2 with ⟨_, e⟩ | ⟨ge, c2, cur2, rfl, _⟩
  · omega
  exact ⟨gl, c1, ge, c2, L.length, rfl, by rw [hr.cell (by omega), hh.log], by rw [hr.cell (by omega), hh.cnt], own_conv hl rfl, own_conv ho rfl⟩

theorem strCells_bl (s : ByteArray) : Lib.strCells s = (bl s).map (Value.int .u8) := by
  rw [Lib.strCells, bl, List.map_map]; rfl

theorem fresh_mark (w : World) (C : Array Value) (t : TypeId) (lo hi i : Nat) (h : i < lo) : (w.alloc (.cells C t (lo, hi))).frozen? ⟨w.heap.size, i, none⟩ = false := by
  unfold World.frozen?
  rw [heap_alloc_new]
  have : ¬ lo ≤ i := by omega
  simp [this]

def numsOf (s : ByteArray) : List Int := (List.range 32).map fun j => (byteAt s j : Int)

theorem nums_set_at (s : ByteArray) (i : Nat) (c : Int) (j : Nat) (hj : j < 32) : ((numsOf s).set i c).getD j 0 = if i = j then c else (byteAt s j : Int) := by
  have hl : (numsOf s).length = 32 := by simp [numsOf]
  rw [List.getD_eq_getElem?_getD, List.getElem?_set]
  by_cases e : i = j
  · subst e
    rw [if_pos rfl, if_pos (by omega), if_pos rfl]
    rfl
  · rw [if_neg e, if_neg e]
    simp [numsOf, hj]

/-- One byte of the wanted text made another: the text is not the wanted one. -/
theorem set_other (s : ByteArray) (i : Nat) (hi : i < 32) (c : Int) (hc : 0 ≤ c ∧ c < 256) (hne : (byteAt s i : Int) ≠ c) : ((strOfNums ((numsOf s).set i c)).toList == s.toList) = false := by
  rw [Bool.eq_false_iff]
  intro h
  rw [beq_iff_eq, ByteArray.toList_eq, ByteArray.toList_eq, strOfNums_data] at h
  have hl : (numsOf s).length = 32 := by simp [numsOf]
  have h2 : ((numsOf s).set i c)[i]? = some c := List.getElem?_set_self (by omega)
  have h3 := congrArg (fun l : List UInt8 => (l.getD i 0).toNat) h
  simp only [List.getD_eq_getElem?_getD, List.getElem?_map, h2, Option.map_some, Option.getD_some] at h3
  refine hne ?_
  rw [byteAt, List.getD_eq_getElem?_getD, ← h3, UInt8.toNat_ofNat']
  omega

theorem flip_facts (w w1 : World) (F : Nat → Value) (s : ByteArray) (hs : s.size = 32) (i : Nat) (hi : i < 32) (c : Int) (hc : 0 ≤ c ∧ c < 256) (hne : (byteAt s i : Int) ≠ c) (hb : Below w.heap.size w w1) (hr : w1.rowIs w.heap.size 60 32 F) :
    ∃ bb cc Wb wS sc, (convert 9 22 (.string s)).run Yba.prog w1 = .ok (.slice (some ⟨bb, 0, none⟩) 32 cc) Wb ∧ Wb.cell? ⟨bb, i, none⟩ = some (.int .u8 (byteAt s i : Int)) ∧ Wb.frozen? ⟨bb, i, none⟩ = false
      ∧ Wb.setCell ⟨bb, i, none⟩ (.int .u8 c) = wS ∧ (convert 22 9 (.slice (some ⟨bb, 0, none⟩) 32 cc)).run Yba.prog wS = .ok (.string sc) wS ∧ sc.size = 32 ∧ (sc.toList == s.toList) = false
      ∧ Below w.heap.size w wS ∧ wS.rowIs w.heap.size 60 32 F := by
  have hcv := run_bytes_of_string (P := Yba.prog) w1 9 22 5 s Yba.underlying9 Yba.underlying22 Yba.underlying5
  rw [hs] at hcv
  obtain ⟨cc, hcc⟩ : ∃ cc, grownCap w1 32 0 5 = cc := ⟨_, rfl⟩
  rw [hcc] at hcv
  have hcell : ∀ j, j < 32 → (w1.drew.alloc (.cells (bytesRow s cc) 5 ((bytesRow s cc).size, (bytesRow s cc).size + 1))).cell? ⟨w1.heap.size, j, none⟩ = some (.int .u8 (byteAt s j : Int)) := fun j hj =>
    (fresh_cell w1.drew _ 5 _ j).trans (bytesRow_at s cc j (by omega))
  have hsz : i < (bytesRow s cc).size := by
    have : s.data.size = 32 := hs
    simp only [bytesRow, Array.size_append, Array.size_map, this]
    omega
  refine ⟨w1.heap.size, cc, _, _, strOfNums ((numsOf s).set i c), hcv, hcell i hi, fresh_mark w1.drew _ 5 _ _ i hsz, rfl, ?_, ?_, set_other s i hi c hc hne, ?_, ?_⟩
  · refine run_convert_bytes_arg _ 22 5 Yba.underlying22 Yba.underlying5 w1.heap.size 0 32 cc _ (by simp [numsOf]) (fun j hj => ?_) 9 Yba.underlying9
    rw [Nat.zero_add, nums_set_at s i c j hj]
    by_cases e : i = j
    · subst e
      rw [if_pos rfl]
      exact World.cell?_setCell_same _ _ _ (hcell i hi)
    · rw [if_neg e, World.cell?_setCell_other _ _ _ _ (by intro h; simp at h), hcell j hj]
  · rw [strOfNums_size, List.length_set]; simp [numsOf]
  · exact (hb.drew.alloc hb.size _).setCell hb.size _
  · have h1 : w1.drew.rowIs w.heap.size 60 32 F := hr
    have hlt := hr.lt
    exact (h1.alloc _).of_block (Below.heap_setCell _ _ _ _ (by show w.heap.size ≠ w1.heap.size; omega))

end Go.Proofs.Ybulkcmcg.Sec
