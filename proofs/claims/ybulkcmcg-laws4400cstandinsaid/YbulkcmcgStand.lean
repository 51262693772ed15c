/-
  SEAT b4400a: the walk of LawS4400CStandIn (5).
-/
import Derived.Test.YbulkcmcgEnd
import Derived.Deep.MidRow
namespace Go.Proofs.Ybulkcmcg.Sec
open Go.ChangeShapes Go.WideShapes Go.ChangeAt Go.RowKit

theorem arr_list (z : Nat → Nat) : (arr z).toList.toArray = arr z := by simp
theorem arr_range (w : World) (b : Nat) (z : Nat → Nat) (h : w.rowIs b 60 32 (fun i => .int .u8 (z i : Int))) : w.rangeAt b 0 (arr z).toList := by
  intro j v hv
  have hj : j < 32 := by
    rcases Nat.lt_or_ge j 32 with h' | h'
    · exact h'
    · rw [List.getElem?_eq_none (by simpa [arr] using h')] at hv; cases hv
  rw [Nat.zero_add, h.cell hj]
  simpa [arr, hj] using hv

theorem info60 : (Yba.prog.info? 60).map (·.size) = some 32 := by kernel_rfl

def hash0 : Array Value := #[.slice none 0 0, .int .i64 0, .int .u8 0, .int .u8 0, .int .u8 0, .int .u8 0, .int .u8 0, .int .u8 0, .int .u8 0, .int .u8 0, .int .u8 0, .int .u8 0, .int .u8 0, .int .u8 0, .int .u8 0, .int .u8 0, .int .u8 0, .int .u8 0,
  .int .u8 0, .int .u8 0, .int .u8 0, .int .u8 0, .int .u8 0, .int .u8 0, .int .u8 0, .int .u8 0, .int .u8 0, .int .u8 0, .int .u8 0, .int .u8 0, .int .u8 0, .int .u8 0, .int .u8 0, .int .u8 0]
theorem hash_eq (z : Nat → Nat) : Array.foldl (fun cs x => cs.setIfInBounds (2 + x.snd) x.fst) hash0 (arr z).zipIdx 0 32 = #[.slice none 0 0, .int .i64 0] ++ arr z := by kernel_rfl

/-- The stand-in hash as the law makes it. -/
def hashF (z : Nat → Nat) (i : Nat) : Value := if i = 0 then .slice none 0 0 else if i = 1 then .int .i64 0 else .int .u8 (z (i - 2) : Int)
theorem hash_row (w : World) (z : Nat → Nat) (o : Obj) : ((w.alloc (.cells (#[.slice none 0 0, .int .i64 0] ++ arr z) 64)).alloc o).rowIs w.heap.size 64 34 (hashF z) := by
  have := (World.rowIs_alloc w (#[.slice none 0 0, .int .i64 0] ++ arr z) 64 (hashF z) (fun i hi => by
    have h34 : i < 34 := by simpa [arr_size] using hi
    rcases Nat.lt_or_ge i 2 with h2 | h2
    · rw [Array.getElem?_append_left (by simpa using h2)]
      have e : i = 0 ∨ i = 1 := by omega
      rcases e with rfl | rfl <;> rfl
    · rw [Array.getElem?_append_right (by simpa using h2)]
      have e1 : ¬ i = 0 := by omega
      have e2 : ¬ i = 1 := by omega
      simp only [hashF, if_neg e1, if_neg e2]
      exact arr_at z (i - 2) (by omega))).alloc o
  simpa [arr_size] using this

theorem zero69_size : Yba.zeroCells69.size = 98 := by kernel_rfl
theorem zero69_one : Yba.zeroCells69.all (·.oneCell') = true := by kernel_rfl
theorem info69 : (Yba.prog.info? 69).map (·.size) = some 98 := by kernel_rfl
theorem mac_size (Z : Array Value) (v : Value) (h : Z.size = 98) : (Z.setIfInBounds 1 v).size = 98 := by rw [Array.size_setIfInBounds]; exact h
theorem mac_one (Z : Array Value) (v : Value) (h : Z.all (·.oneCell') = true) (hv : v.oneCell' = true) : (Z.setIfInBounds 1 v).all (·.oneCell') = true := by
  rw [Array.all_eq_true_iff_forall_mem] at h ⊢
  intro x hx
  rcases Array.mem_or_eq_of_mem_setIfInBounds hx with h' | h'
  · exact h x h'
  · rw [h']; exact hv
theorem mac_at (Z : Array Value) (v : Value) (h : Z.size = 98) : (Z.setIfInBounds 1 v).toList[1]?.getD default = v := by
  rw [Array.toList_setIfInBounds, List.getElem?_set_self (by rw [Array.length_toList, h]; omega)]
  rfl
theorem zero_row (w : World) (Z : Array Value) (h : Z.size = 98) : (w.alloc (.cells Z 69)).rowIs w.heap.size 69 98 (fun i => Z.getD i default) := by
  have := World.rowIs_alloc w Z 69 (fun i => Z.getD i default) (fun i hi => by
    rw [Array.getD_eq_getD_getElem?, Array.getElem?_eq_getElem hi]
    rfl)
  rw [h] at this
  exact this

/-- The secrets and the hash as the law has made them. -/
theorem st_made (w w1 : World) (z : Nat → Nat) (Z : Array Value) (hZ : Z.size = 98) (hb : Below w.heap.size w w1) :
    ∃ f, St (((w1.alloc (.cells (#[.slice none 0 0, .int .i64 0] ++ arr z) 64)).alloc (.cells Z 69)).setCells (w1.heap.size + 1) 0 (Z.toList.set 1 (.iface 62 (.pointer (some ⟨w1.heap.size, 0, none⟩))))) w.heap.size (w1.heap.size + 1) w1.heap.size f (fun i => (z i : Int)) 0 [] := by
  have hsz := hb.size
  have hr := zero_row (w1.alloc (.cells (#[.slice none 0 0, .int .i64 0] ++ arr z) 64)) Z hZ
  rw [Go.Deep.nblk_alloc] at hr
  rw [← Array.toList_setIfInBounds]
  refine ⟨_, by omega, rowIs_setCells _ 0 _ _ hr, ?_, .slice none 0 0, hashF z, hsz, rowIs_setCells_other (by omega) _ _ _ (hash_row w1 z _), rfl, rfl, fun i hi => ?_, World.ownsRow_nil _ _ _ _⟩
  · have c : 0 ≤ 1 ∧ 1 < 0 + (Z.setIfInBounds 1 (.iface 62 (.pointer (some ⟨w1.heap.size, 0, none⟩)))).toList.length := by rw [Array.length_toList, mac_size Z _ hZ]; omega
    rw [if_pos c]
    exact mac_at Z _ hZ
  · have e1 : ¬ 2 + i = 0 := by omega
    have e2 : ¬ 2 + i = 1 := by omega
    simp only [hashF, if_neg e1, if_neg e2]
    rw [show 2 + i - 2 = i from by omega]

theorem there_made (w1 : World) (z : Nat → Nat) (Z : Array Value) (hZ : Z.size = 98) (v : Value) :
    ((w1.alloc (.cells (#[.slice none 0 0, .int .i64 0] ++ arr z) 64)).alloc (.cells Z 69)).there (w1.heap.size + 1) 0 (Z.setIfInBounds 1 v).size := by
  intro j hj
  have hr := zero_row (w1.alloc (.cells (#[.slice none 0 0, .int .i64 0] ++ arr z) 64)) Z hZ
  rw [Go.Deep.nblk_alloc] at hr
  rw [mac_size Z v hZ] at hj
  exact ⟨by rw [Nat.zero_add, hr.cell hj]; rfl, hr.frozen _⟩

theorem below_drewN {B : Nat} {w w' : World} (h : Below B w w') (n : Nat) : Below B w (w'.drewN n) := ⟨h.os, h.tape, h.output, h.size, h.block⟩

end Go.Proofs.Ybulkcmcg.Sec
