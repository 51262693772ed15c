/-
  SEAT b4400a: the contract of (*secrets).write (12).
-/
import Derived.Test.YbulkcmcgCmp
namespace Go.Proofs.Ybulkcmcg.Sec
open Go.ChangeShapes Go.WideShapes Go.ChangeAt Go.RowKit

/-- What match feeds the hash. -/
def fed (tok : Int) (name client : ByteArray) : List Int := tokL tok ++ bl name ++ (if client.size = 0 then [] else 0 :: bl client)

theorem St.other {w w' : World} {base S Hb Wb : Nat} {f f0 : Nat → Value} {x : Nat → Int} {rs : Int} {L : List Int} (h : St w base S Hb f x rs L) (hg : w.grownBy w' (some Wb)) (hw : w.rowIs Wb 60 32 f0) (h1 : Wb ≠ S) (h2 : Wb ≠ Hb) : St w' base S Hb f x rs L := by
  obtain ⟨lv, g, hh⟩ := h.hash
  exact ⟨h.low, h.row.of_block (hg.block S h.row.lt (by simpa using fun e => h1 e.symm)), h.mac, lv, g, hh.low, hh.row.of_block (hg.block Hb hh.row.lt (by simpa using fun e => h2 e.symm)), hh.log, hh.cnt, hh.sum, hh.own.kept hg (.inr (own_far hh.own hw (by decide)))⟩

theorem isEmpty_size (s : ByteArray) : s.toList.isEmpty = decide (s.size = 0) := by
  rw [ByteArray.toList_eq, Lib.size_eq]
  cases s.data.toList <;> simp

set_option maxRecDepth 100000 in
set_option maxHeartbeats 1000000 in
theorem write12_any (base S Hb Wb : Nat) (f f0 : Nat → Value) (z : Nat → Nat) (L : List Int) (tok : Int) (name client : ByteArray) (w : World) (h : St w base S Hb f (fun i => (z i : Int)) 0 L) (hw : w.rowIs Wb 60 32 f0) (hz : ∀ i, z i ≤ 255)
    (h0 : 0 ≤ tok) (h1 : tok ≤ 18446744073709551615) (b1 : name.size ≤ 4096) (b2 : client.size ≤ 4096) (HW0 : base ≤ Wb) (HW1 : Wb ≠ S) (HW2 : Wb ≠ Hb) :
    Calls Yba.prog 12 #[.pointer (some ⟨S, 0, none⟩), .pointer (some ⟨Wb, 0, none⟩), .int .u64 tok, .string name, .string client] w fun e w' => e = .returned (.tuple #[]) ∧
      (∃ f', St w' base S Hb f' (fun i => (z i : Int)) 1 (fed tok name client)) ∧ w'.rowIs Wb 60 32 (hexF f0 z 16) ∧ Below base w w' ∧
      (∀ b t n g, b ≠ S → b ≠ Hb → b ≠ Wb → t ≠ 5 → w.rowIs b t n g → w'.rowIs b t n g) := by
  have HS : Hid (St w base S Hb f (fun i => (z i : Int)) 0 L) := h
  have HT : Hid (0 ≤ tok ∧ tok ≤ 18446744073709551615) := ⟨h0, h1⟩
  have c1 := h.cell
  have mr := method_reset Hb
  have mw := method_write Hb
  have ms := method_sum Hb
  clear h h0 h1
  go_enter Yba.func12, Yba.ntmps12
  go_wp2_with (go_at_call 59; go_must (refine (reset_any base S Hb f _ 0 L _ HS.out (by omega) (by omega)).mono ?_; rintro e w1 ⟨rfl, hs1, hb1, hk1⟩))
  have HS1 : Hid (St w1 base S Hb f (fun i => (z i : Int)) 1 []) := hs1
  have hW1 := hk1.row hw HW1 HW2 (by decide)
  clear hs1 HS c1 hw
  go_region_with (go_at_call 16; go_must (refine (put_any base S Hb f _ 1 [] tok _ HS1.out.drew HT.out.1 HT.out.2).mono ?_; rintro e w2 ⟨rfl, ⟨f2, hs2, hf2, hf2'⟩, hb2, hk2⟩))
  have hb02 := hb1.drew.trans hb2
  have hk02 := hk1.drew.trans hk2
  have hW2 := hk2.row (b := Wb) hW1 HW1 HW2 (by decide)
  have HS2 : Hid (St w2 base S Hb f2 (fun i => (z i : Int)) 1 []) := hs2
  have HSRC : Hid (∀ j u, ((tokL tok).map (Value.int .u8))[j]? = some u → w2.cell? ((⟨S, 2, none⟩ : Addr).add j) = some u) := hs2.src (tokL tok) 2 (by simp [tokL]) (fun i hi => hf2 i (by simpa [tokL] using hi))
  have c1 := hs2.cell
  clear hs2 hf2 hf2' hb1 hb2 hk1 hk2 hW1 HS1
  go_wp2_with fail
  go_region_with (go_at_call 61; go_must (refine (write_any base S Hb f2 _ 1 [] (tokL tok) ⟨S, 2, none⟩ 8 64 _ HS2.out.drew HSRC.out rfl (by simp)).mono ?_; rintro e w3 ⟨rfl, hs3, hb3, hk3⟩))
  have hb03 := hb02.drew.trans hb3
  have hk03 := hk02.drew.trans hk3
  have hW3 := hk3.row (b := Wb) hW2 HW1 HW2 (by decide)
  have HS3 : Hid (St w3 base S Hb f2 (fun i => (z i : Int)) 1 ([] ++ tokL tok)) := hs3
  clear hs3 hb3 hk3 hW2 HS2 HSRC c1 hb02 hk02
  go_wp2_with fail
  refine (text_any base S Hb f2 _ 1 ([] ++ tokL tok) name _ HS3.out (by simp [tokL]; omega)).mono ?_
  rintro e w4 ⟨rfl, ⟨f4, hs4⟩, hb4, hk4⟩
  have hb04 := hb03.trans hb4
  have hk04 := hk03.trans hk4
  have hW4 := hk4.row (b := Wb) hW3 HW1 HW2 (by decide)
  have HS4 : Hid (St w4 base S Hb f4 (fun i => (z i : Int)) 1 ([] ++ tokL tok ++ bl name)) := hs4
  have c1 := hs4.cell
  have c2 := hs4.row.cell (i := 2) (by omega)
  have g2 := hs4.row.frozen 2
  clear hs4 hb4 hk4 hW3 HS3 hb03 hk03
  by_cases hcl : client.size = 0
  · have he : client.toList.isEmpty = true := by rw [isEmpty_size, decide_eq_true hcl]
    go_wp2_with fail
    have c3 := HS4.out.cell
    obtain ⟨lt1, lt2⟩ : S < w4.heap.size ∧ Wb < w4.heap.size := ⟨HS4.out.row.lt, hW4.lt⟩
    go_region_with (first | (go_at_call 60; go_must (refine (sum_any base S Hb f4 _ 1 ([] ++ tokL tok ++ bl name) _ HS4.out.drew).mono ?_; rintro e w8 ⟨rfl, ⟨f8, hs8, hf8, hf8'⟩, hb8, hk8⟩)) | (go_at_call 18; go_must (refine (encode_any Wb S f0 z _ (hk8.row (b := Wb) hW4 HW1 HW2 (by decide)) (fun i hi => by rw [hs8.row.cell (by omega), hf8 i (by omega)]) HW1 hz).mono ?_; rintro e w9 ⟨rfl, hrow9, hg9⟩)))
    have hW8 := hk8.row (b := Wb) hW4 HW1 HW2 (by decide)
    go_end0
    refine ⟨rfl, ⟨f8, ?_⟩, hrow9, ?_, ?_⟩
    · have h9 := hs8.other hg9 hW8 HW1 HW2
      rw [show fed tok name client = [] ++ tokL tok ++ bl name from by simp [fed, hcl]]
      exact h9
    · have h8 := hb04.drew.trans hb8
      exact h8.grown hg9 hs8.low2 (fun k hk => by cases hk; exact HW0)
    · intro b t n g n1 n2 n3 n4 hr
      have r8 := (hk04.drew.trans hk8).row hr n1 n2 n4
      exact r8.of_block (hg9.block b r8.lt (by simpa using n3))
  · have he : client.toList.isEmpty = false := by rw [isEmpty_size, decide_eq_false hcl]
    have hs5 := HS4.out.set 2 (by decide) (.int .u8 0)
    have hb05 := hb04.setCell (p := ⟨S, 2, none⟩) HS4.out.low (.int .u8 0)
    have hk05 := hk04.setCell (a := ⟨S, 2, none⟩) (.inl rfl) (.int .u8 0)
    have hW5 := hW4.setOther (a := ⟨S, 2, none⟩) HW1 (.int .u8 0)
    have hsrc5 := hs5.src [0] 2 (by simp) (fun i hi => by
      have e : i = 0 := by simpa using hi
      subst e
      rfl)
    clear hb04 hk04 hW4
    go_wp2_with fail
    generalize w4.setCell ⟨S, 2, none⟩ (.int .u8 0) = w5 at *
    have HS5 : Hid (St w5 base S Hb _ (fun i => (z i : Int)) 1 ([] ++ tokL tok ++ bl name)) := hs5
    have HSRC5 : Hid (∀ j u, (([0] : List Int).map (Value.int .u8))[j]? = some u → w5.cell? ((⟨S, 2, none⟩ : Addr).add j) = some u) := hsrc5
    clear c1
    have c1 := hs5.cell
    clear hs5 hsrc5 c2 g2 HS4
    go_region_with (go_at_call 61; go_must (refine (write_any base S Hb _ _ 1 ([] ++ tokL tok ++ bl name) [0] ⟨S, 2, none⟩ 1 64 _ HS5.out.drew HSRC5.out rfl (by simp [tokL, bl_length]; omega)).mono ?_; rintro e w6 ⟨rfl, hs6, hb6, hk6⟩))
    have hb06 := hb05.drew.trans hb6
    have hk06 := hk05.drew.trans hk6
    have hW6 := hk6.row (b := Wb) hW5 HW1 HW2 (by decide)
    have HS6 : Hid (St w6 base S Hb _ (fun i => (z i : Int)) 1 ([] ++ tokL tok ++ bl name ++ [0])) := hs6
    clear hs6 hb6 hk6 hW5 HS5 HSRC5 c1 hb05 hk05
    go_wp2_with fail
    refine (text_any base S Hb _ _ 1 ([] ++ tokL tok ++ bl name ++ [0]) client _ HS6.out (by simp [tokL, bl_length]; omega)).mono ?_
    rintro e w7 ⟨rfl, ⟨f7, hs7⟩, hb7, hk7⟩
    have hb07 := hb06.trans hb7
    have hk07 := hk06.trans hk7
    have hW7 := hk7.row (b := Wb) hW6 HW1 HW2 (by decide)
    have HS7 : Hid (St w7 base S Hb f7 (fun i => (z i : Int)) 1 ([] ++ tokL tok ++ bl name ++ [0] ++ bl client)) := hs7
    clear hs7 hb7 hk7 hW6 HS6 hb06 hk06
    go_wp2_with fail
    have c3 := HS7.out.cell
    obtain ⟨lt1, lt2⟩ : S < w7.heap.size ∧ Wb < w7.heap.size := ⟨HS7.out.row.lt, hW7.lt⟩
    go_region_with (first | (go_at_call 60; go_must (refine (sum_any base S Hb f7 _ 1 ([] ++ tokL tok ++ bl name ++ [0] ++ bl client) _ HS7.out.drew).mono ?_; rintro e w8 ⟨rfl, ⟨f8, hs8, hf8, hf8'⟩, hb8, hk8⟩)) | (go_at_call 18; go_must (refine (encode_any Wb S f0 z _ (hk8.row (b := Wb) hW7 HW1 HW2 (by decide)) (fun i hi => by rw [hs8.row.cell (by omega), hf8 i (by omega)]) HW1 hz).mono ?_; rintro e w9 ⟨rfl, hrow9, hg9⟩)))
    have hW8 := hk8.row (b := Wb) hW7 HW1 HW2 (by decide)
    go_end0
    refine ⟨rfl, ⟨f8, ?_⟩, hrow9, ?_, ?_⟩
    · have h9 := hs8.other hg9 hW8 HW1 HW2
      rw [show fed tok name client = [] ++ tokL tok ++ bl name ++ [0] ++ bl client from by simp [fed, hcl]]
      exact h9
    · have h8 := hb07.drew.trans hb8
      exact h8.grown hg9 hs8.low2 (fun k hk => by cases hk; exact HW0)
    · intro b t n g n1 n2 n3 n4 hr
      have r8 := (hk07.drew.trans hk8).row hr n1 n2 n4
      exact r8.of_block (hg9.block b r8.lt (by simpa using n3))

end Go.Proofs.Ybulkcmcg.Sec
