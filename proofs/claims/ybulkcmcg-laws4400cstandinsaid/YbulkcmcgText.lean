/-
  SEAT b4400a: the contract of writeText (17).
-/
import Derived.Test.YbulkcmcgPut
namespace Go.Proofs.Ybulkcmcg.Sec
open Go.ChangeShapes Go.WideShapes Go.ChangeAt Go.RowKit

/-- A string's bytes as numbers. -/
def bl (s : ByteArray) : List Int := s.data.toList.map fun b => (b.toNat : Int)
theorem bl_length (s : ByteArray) : (bl s).length = s.size := by
  unfold bl
  rw [List.length_map]
  exact (Lib.size_eq s).symm

theorem bl_extract (s : ByteArray) (n : Nat) : bl (s.extract n s.size) = (bl s).drop n := by
  unfold bl
  rw [ByteArray.data_extract, Array.toList_extract, ← List.map_drop, List.extract_eq_take_drop, List.take_of_length_le]
  rw [List.length_drop, ← Lib.size_eq]
  exact Nat.le_refl _

/-- 'copy(dst, s)', s a string, dst shorter or not. -/
theorem run_copy_str (w : World) (ty : TypeId) (b o dLen dCap : Nat) (t : ByteArray) (n : Nat) (hn : n = Nat.min t.size dLen)
    (hc : ∀ j, j < n → (w.cell? ⟨b, o + j, none⟩).isSome = true) (hf : ∀ j, j < n → w.frozen? ⟨b, o + j, none⟩ = false) :
    (Builtin.copy_ #[22, 9] ty #[.slice (some ⟨b, o, none⟩) dLen dCap, .string t]).run Yba.prog w = .ok (.int .i64 n) (w.setCells b o (((bl t).take n).map (Value.int .u8))) := by
  obtain ⟨i0, hi0, hz0, hz1, hz2⟩ := info_parts info5
  have hz : ∀ w, (Go.sizeOf 5).run Yba.prog w = .ok 1 w := fun w => by simp [Go.sizeOf, typeInfo, hi0, hz1]
  have hle : n ≤ t.size := by rw [hn]; exact Nat.min_le_left _ _
  have hl : (((bl t).take n).map (Value.int .u8)).length = n := by rw [List.length_map, List.length_take, bl_length]; omega
  have hst := run_storeCells_cells (P := Yba.prog) b o (((bl t).take n).map (Value.int .u8)) 0 w (by rw [hl]; simpa using hc) (by rw [hl]; simpa using hf) (ones _)
  have hm : List.map (Value.int .u8) (List.take n (bl t)) = List.map (fun b : UInt8 => Value.int .u8 (b.toNat : Int)) (List.take n t.data.toList) := by
    simp [bl, ← List.map_take, Function.comp_def]
  simp only [Nat.add_zero] at hst
  simp [Builtin.copy_, run_underlying Yba.underlying22, Builtin.lenOf, Builtin.firstCells, hz, ← hn]
  rw [← List.map_take, ← hm, hst, List.map_take]
  rfl

def szOf : Value → Nat | .string s => s.size | _ => 0

theorem method_write (b : Nat) (w : World) : (method 394 62 (.pointer (some ⟨b, 0, none⟩)) "Write").run Yba.prog w = .ok (61, .pointer (some ⟨b, 0, none⟩)) w := by kernel_rfl
theorem method_reset (b : Nat) (w : World) : (method 394 62 (.pointer (some ⟨b, 0, none⟩)) "Reset").run Yba.prog w = .ok (59, .pointer (some ⟨b, 0, none⟩)) w := by kernel_rfl
theorem method_sum (b : Nat) (w : World) : (method 394 62 (.pointer (some ⟨b, 0, none⟩)) "Sum").run Yba.prog w = .ok (60, .pointer (some ⟨b, 0, none⟩)) w := by kernel_rfl

theorem St.src {w : World} {base S Hb : Nat} {f : Nat → Value} {x : Nat → Int} {rs : Int} {L : List Int} (h : St w base S Hb f x rs L) (ys : List Int) (o : Nat) (hn : o + ys.length ≤ 98) (hf : ∀ i, i < ys.length → f (o + i) = .int .u8 (ys.getD i 0)) :
    ∀ j u, (ys.map (Value.int .u8))[j]? = some u → w.cell? ((⟨S, o, none⟩ : Addr).add j) = some u := by
  intro j u hj
  have hlt : j < ys.length := by
    rcases Nat.lt_or_ge j ys.length with h' | h'
    · exact h'
    · rw [List.getElem?_eq_none (by simpa using h')] at hj; cases hj
  rw [show (⟨S, o, none⟩ : Addr).add j = ⟨S, o + j, none⟩ from by unfold Addr.add; split <;> simp_all, h.row.cell (by omega), hf j hlt]
  simp [List.getElem?_eq_getElem hlt] at hj
  simp [List.getElem?_eq_getElem hlt, hj]

set_option maxRecDepth 100000 in
set_option maxHeartbeats 1000000 in
theorem text_any (base S Hb : Nat) (f : Nat → Value) (x : Nat → Int) (rs : Int) (L : List Int) (t : ByteArray) (w : World) (h : St w base S Hb f x rs L) (hb : L.length + t.size ≤ 50000) :
    Calls Yba.prog 17 #[.pointer (some ⟨S, 0, none⟩), .string t] w fun e w' => e = .returned (.tuple #[]) ∧
      (∃ f', St w' base S Hb f' x rs (L ++ bl t)) ∧ Below base w w' ∧ Kept S Hb w w' := by
  go_enter Yba.func17, Yba.ntmps17
  go_wp2
  go_loopw [1, 4] (fun v _ wr => ∃ (rest : ByteArray) (f' : Nat → Value) (L' : List Int), v = .string rest ∧ St wr base S Hb f' x rs L' ∧ L' ++ bl rest = L ++ bl t ∧ Below base w wr ∧ Kept S Hb w wr) (fun v _ _ => szOf v)
  case atStart => exact ⟨t, f, L, rfl, h, rfl, Below.refl _ _, Kept.refl _ _ _⟩
  case round =>
    obtain ⟨rest, f', L', rfl, hs, hcat, hbel, hkep⟩ := hrel
    have HS : Hid (St wr base S Hb f' x rs L') := hs
    have HCAT : Hid (L' ++ bl rest = L ++ bl t) := hcat
    have hlen : L'.length + rest.size = L.length + t.size := by
      have := congrArg List.length hcat
      rw [List.length_append, List.length_append, bl_length, bl_length] at this
      exact this
    clear hs hcat h
    by_cases hpos : 0 < rest.size
    · obtain ⟨n, hn⟩ : ∃ n, n = Nat.min rest.size 64 := ⟨_, rfl⟩
      have hn1 : n ≤ rest.size := by rw [hn]; exact Nat.min_le_left _ _
      have hn2 : n ≤ 64 := by rw [hn]; exact Nat.min_le_right _ _
      have hn3 : 0 < n := by rw [hn]; exact Nat.lt_min.2 ⟨hpos, by decide⟩
      obtain ⟨vs, hvs⟩ : ∃ vs, ((bl rest).take n).map (Value.int .u8) = vs := ⟨_, rfl⟩
      obtain ⟨ys, hys⟩ : ∃ ys, (bl rest).take n = ys := ⟨_, rfl⟩
      have hyl : ys.length = n := by rw [← hys, List.length_take, bl_length]; omega
      have HRUN : Hid (∀ ty, (Builtin.copy_ #[22, 9] ty #[.slice (some ⟨S, 2, none⟩) 64 64, .string rest]).run Yba.prog wr = .ok (.int .i64 n) (wr.setCells S 2 vs)) := fun ty => by
        rw [← hvs]
        exact run_copy_str wr ty S 2 64 64 rest n hn (fun j hj => by rw [HS.out.row.cell (by omega)]; rfl) (fun j hj => HS.out.row.frozen _)
      rw [hys] at hvs
      have hs2 := HS.out.setMany vs 2 (Nat.le_refl _)
      have hsrc := hs2.src ys 2 (by omega) (fun i hi => by
        have hv : vs.length = ys.length := by rw [← hvs, List.length_map]
        have c : 2 ≤ 2 + i ∧ 2 + i < 2 + vs.length := by omega
        simp only [if_pos c]
        rw [← hvs]
        simp [List.getElem?_eq_getElem hi])
      have hb2 := below_setCells HS.out.low vs 2 wr hbel
      have hk2 := hkep.setCells (.inl rfl) vs 2
      have HCY : Hid (bl rest = ys ++ (bl rest).drop n) := by rw [← hys]; exact (List.take_append_drop _ _).symm
      clear hvs hn hys
      go_wp2_with (refine Lib.wpList_copy_run _ (by rfl) (.tmp 11) (.tmp 12) 22 9 (by rfl) _ _ (by rfl) (by rfl) (HRUN.out _) ?_)
      clear HRUN HS
      generalize wr.setCells S 2 vs = W at *
      have HS2 : Hid (St W base S Hb _ x rs L') := hs2
      have HSRC : Hid (∀ j u, (ys.map (Value.int .u8))[j]? = some u → W.cell? ((⟨S, 2, none⟩ : Addr).add j) = some u) := hsrc
      have c1 := hs2.cell
      have hmw := method_write Hb
      have i1 : (0 : Int) ≤ (n : Int) := by omega
      have i2 : (n : Int) ≤ 64 := by omega
      have hLn : L'.length + n ≤ 100000 := by omega
      clear hs2 hsrc hbel hkep
      go_region_with (go_at_call 61; go_must (refine (write_any base S Hb _ x rs L' ys ⟨S, 2, none⟩ n 64 _ HS2.out.drew HSRC.out hyl hLn).mono ?_; rintro e w3 ⟨rfl, hs3, hb3, hk3⟩))
      have HS3 : Hid (St w3 base S Hb _ x rs (L' ++ ys)) := hs3
      clear hs3 c1 hmw
      go_wp2
      go_roundw
      case rel =>
        refine ⟨rest.extract n rest.size, _, L' ++ ys, rfl, HS3.out, ?_, hb2.drew.trans hb3, hk2.drew.trans hk3⟩
        rw [bl_extract, List.append_assoc, ← HCY.out]
        exact HCAT.out
      case measure => simp [szOf]; omega
    · have h0 : rest.size = 0 := by omega
      have HB : Hid (bl rest = []) := List.eq_nil_of_length_eq_zero (by rw [bl_length]; exact h0)
      go_wp2
      go_end0
      refine ⟨rfl, ⟨f', ?_⟩, hbel, hkep⟩
      have e := HCAT.out
      rw [HB.out, List.append_nil] at e
      rw [← e]
      exact HS.out

end Go.Proofs.Ybulkcmcg.Sec
