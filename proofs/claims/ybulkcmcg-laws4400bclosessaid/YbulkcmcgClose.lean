/-
  SEAT b4400a: the contract of (*Client).CloseIdle (7).
-/
import Derived.Test.YbulkcmcgIdle
import Derived.Test.YbulkcmcgLocks
namespace Go.Proofs.Ybulkcmcg.Idle
open Go.ChangeShapes Go.WideShapes Go.ChangeAt Go.RowKit
open Go.MuLone

/-- The value p points to a client connection over the stand-in with this id, noting in the log at Lb. -/
def Conn (w : World) (Lb : Nat) (p : Value) (id : Int) : Prop :=
  ∃ c d n F, p = .pointer (some ⟨c, 0, none⟩) ∧ 0 < n ∧ w.rowIs c 83 n F ∧ F 0 = .iface 76 (.pointer (some ⟨d, 0, none⟩)) ∧ w.rowIs d 78 2 (connF Lb id)

theorem Conn.keep {w w' : World} {Lb : Nat} {p : Value} {id : Int} (h : Conn w Lb p id) (hk : ∀ b t n F, t = 83 ∨ t = 78 → w.rowIs b t n F → w'.rowIs b t n F) : Conn w' Lb p id := by
  obtain ⟨c, d, n, F, h1, h2, h3, h4, h5⟩ := h
  exact ⟨c, d, n, F, h1, h2, hk _ _ _ _ (.inl rfl) h3, h4, hk _ _ _ _ (.inr rfl) h5⟩

theorem LogAt.setOther {w : World} {base Lb : Nat} {lv : Value} {L : List Int} (h : LogAt w base Lb lv L) {C n : Nat} {F : Nat → Value} (hr : w.rowIs C 58 n F) (o : Nat) (u : Value) : LogAt (w.setCell ⟨C, o, none⟩ u) base Lb lv L :=
  ⟨h.low, h.row.setOther (a := ⟨C, o, none⟩) (rows_far h.row hr (by decide)) u, ownsRow_setCell_other h.own (a := ⟨C, o, none⟩) (own_far h.own hr (by decide)) u⟩

theorem own_formT {w : World} {base e n : Nat} {v : Value} {xs : List Value} (h : w.ownsRow base e 1 v n xs) : ∃ a cap, v = .slice a n cap := by
  rcases h.2 with ⟨rfl, rfl⟩ | ⟨g, cap, cur, rfl, _⟩
  · exact ⟨none, 0, rfl⟩
  · exact ⟨_, cap, rfl⟩

set_option maxHeartbeats 1000000 in
theorem closeIdle_any (base Lb C : Nat) (lv v : Value) (F : Nat → Value) (L ids : List Int) (ps : List Value) (w : World) (hl : LogAt w base Lb lv L) (hC : base ≤ C) (hr : w.rowIs C 58 22 F) (h19 : F 19 = .int .i32 0) (h21 : F 21 = v)
    (ho : w.ownsRow base 75 1 v ids.length ps) (hcn : ∀ j, j < ids.length → Conn w Lb (ps.getD j .nilIface) (ids.getD j 0)) (hb : L.length + ids.length ≤ 5000) :
    Calls Yba.prog 7 #[.pointer (some ⟨C, 0, none⟩)] w fun e w' => e = .returned (.tuple #[]) ∧ (∃ lv', LogAt w' base Lb lv' (L ++ ids)) ∧
      (∃ F', w'.rowIs C 58 22 F' ∧ F' 0 = F 0 ∧ F' 19 = .int .i32 0 ∧ F' 21 = .slice none 0 0) ∧ Below base w w' := by
  obtain ⟨a, cap, rfl⟩ := own_formT ho
  have c19 : w.cell? ⟨C, 19, none⟩ = some (.int .i32 0) := by rw [hr.cell (by omega), h19]
  have c21 : w.cell? ⟨C, 21, none⟩ = some (.slice a ids.length cap) := by rw [hr.cell (by omega), h21]
  have f19 := hr.frozen 19
  have f21 := hr.frozen 21
  have hr1 := hr.set 19 (.int .i32 1)
  have hr2 := hr1.set 21 (.slice none 0 0)
  have hr3 := hr2.set 19 (.int .i32 0)
  have hl3 := ((hl.setOther hr 19 (.int .i32 1)).setOther hr1 21 (.slice none 0 0)).setOther hr2 19 (.int .i32 0)
  have ho3 := ownsRow_setCell_other (ownsRow_setCell_other (ownsRow_setCell_other ho (a := ⟨C, 19, none⟩) (own_far ho hr (by decide)) (.int .i32 1)) (a := ⟨C, 21, none⟩) (own_far ho hr (by decide)) (.slice none 0 0)) (a := ⟨C, 19, none⟩) (own_far ho hr (by decide)) (.int .i32 0)
  have hcn3 : ∀ j, j < ids.length → Conn (((w.setCell ⟨C, 19, none⟩ (.int .i32 1)).setCell ⟨C, 21, none⟩ (.slice none 0 0)).setCell ⟨C, 19, none⟩ (.int .i32 0)) Lb (ps.getD j .nilIface) (ids.getD j 0) := fun j hj => (hcn j hj).keep (fun b t n G ht hG => by
    have hne : b ≠ C := rows_far hG hr (by rcases ht with rfl | rfl <;> decide)
    exact ((hG.setOther (a := ⟨C, 19, none⟩) hne _).setOther (a := ⟨C, 21, none⟩) hne _).setOther (a := ⟨C, 19, none⟩) hne _)
  have hb3 : Below base w (((w.setCell ⟨C, 19, none⟩ (.int .i32 1)).setCell ⟨C, 21, none⟩ (.slice none 0 0)).setCell ⟨C, 19, none⟩ (.int .i32 0)) := (((Below.refl _ _).setCell (p := ⟨C, 19, none⟩) hC _).setCell (p := ⟨C, 21, none⟩) hC _).setCell (p := ⟨C, 19, none⟩) hC _
  have k19 : ((w.setCell ⟨C, 19, none⟩ (.int .i32 1)).setCell ⟨C, 21, none⟩ (.slice none 0 0)).cell? ⟨C, 19, none⟩ = some (.int .i32 1) := by rw [hr2.cell (by omega)]; rfl
  have kf := hr2.frozen 19
  have HR3 : Hid (World.rowIs _ C 58 22 _) := hr3
  have HL3 : Hid (LogAt _ base Lb lv L) := hl3
  have HO3 : Hid (World.ownsRow _ base 75 1 (.slice a ids.length cap) ids.length ps) := ho3
  have HC3 : Hid (∀ j, j < ids.length → Conn _ Lb (ps.getD j .nilIface) (ids.getD j 0)) := hcn3
  clear hr hr1 hr2 hr3 hl3 ho3 hcn3 hl ho hcn
  go_enter Yba.func7, Yba.ntmps7
  go_wp2_with (first | (go_at_call 10; refine (lock_free Yba.muLib ⟨C, 19, none⟩ _ c19 f19).mono ?_; rintro e w' ⟨rfl, rfl⟩) | (go_at_call 11; refine (unlock_held Yba.muLib ⟨C, 19, none⟩ _ k19 kf).mono ?_; rintro e w' ⟨rfl, rfl⟩))
  clear c19 c21 f19 f21 k19 kf
  generalize ((w.setCell ⟨C, 19, none⟩ (.int .i32 1)).setCell ⟨C, 21, none⟩ (.slice none 0 0)).setCell ⟨C, 19, none⟩ (.int .i32 0) = W at *
  obtain ⟨n, hn⟩ : ∃ n, ids.length = n := ⟨_, rfl⟩
  have HN : Hid (ids.length = n) := hn
  rw [hn] at HO3 HC3 hb ⊢
  clear hn
  go_loopw [22, 4] (fun i _ wr => ∃ k : Nat, k ≤ n ∧ i = .int .i64 k ∧ (∃ lv', LogAt wr base Lb lv' (L ++ ids.take k)) ∧ Below base W wr ∧ KeptL Lb W wr) (fun i _ _ => n - (intOf i).toNat)
  case atStart => exact ⟨0, Nat.zero_le _, rfl, ⟨lv, by simpa using HL3.out⟩, Below.refl _ _, KeptL.refl _ _⟩
  case round =>
    obtain ⟨k, hk, rfl, ⟨lw, hlw⟩, hbel, hkep⟩ := hrel
    have HLW : Hid (LogAt wr base Lb lw (L ++ ids.take k)) := hlw
    clear hlw
    by_cases hlt : k < n
    · have hof := hkep.own HO3.out (own_far HO3.out HL3.out.row (by decide)) (by decide)
      rcases hof.2 with ⟨_, q0⟩ | ⟨g, cap', cur, q, _⟩
      · omega
      cases q
      have HCK : Hid (Conn wr Lb (ps.getD k .nilIface) (ids.getD k 0)) := (HC3.out k hlt).keep (fun b t m G ht hG => hkep.row hG (rows_far hG HL3.out.row (by rcases ht with rfl | rfl <;> decide)) (by rcases ht with rfl | rfl <;> decide))
      obtain ⟨c, d, m, G, hp, hm, hrc, hG0, hrd⟩ := HCK.out
      have hplen : ps.length = n := by have := HO3.out.1; omega
      have ck : wr.cell? ⟨g, k, none⟩ = some (.pointer (some ⟨c, 0, none⟩)) := by
        rw [hof.cellAt k (by omega), ← hp, List.getD_eq_getElem?_getD, List.getElem?_eq_getElem (by omega)]
        rfl
      have cc : wr.cell? ⟨c, 0, none⟩ = some (.iface 76 (.pointer (some ⟨d, 0, none⟩))) := by rw [hrc.cell hm, hG0]
      have hmt := method_close d
      have HRD : Hid (wr.rowIs d 78 2 (connF Lb (ids.getD k 0))) := hrd
      have HTK : Hid (L ++ ids.take (k + 1) = L ++ ids.take k ++ [ids.getD k 0]) := by
        rw [List.append_assoc, List.take_succ_eq_append_getElem (by rw [HN.out]; exact hlt), List.getD_eq_getElem?_getD, List.getElem?_eq_getElem (by rw [HN.out]; exact hlt)]
        rfl
      have HLL : Hid ((L ++ ids.take k).length ≤ 5000) := by
        show (L ++ ids.take k).length ≤ 5000
        rw [List.length_append, List.length_take]; omega
      clear hof hrc hrd hG0 hp
      go_wp2_with (go_at_call 63; go_must (refine (close_any base Lb d lw _ (ids.getD k 0) _ HLW.out HRD.out HLL.out).mono ?_; rintro e w5 ⟨rfl, ⟨lv5, hl5⟩, hb5, hk5⟩))
      refine ⟨⟨k + 1, by omega, by simp, ⟨lv5, by rw [HTK.out]; exact hl5⟩, hbel.trans hb5, hkep.trans hk5⟩, ?_⟩
      simp [intOf]
      omega
    · have hk' : k = n := by omega
      subst hk'
      go_wp2
      go_end0
      refine ⟨rfl, ⟨lw, ?_⟩, ⟨_, hkep.row HR3.out (rows_far HR3.out HL3.out.row (by decide)) (by decide), rfl, rfl, rfl⟩, hb3.trans hbel⟩
      have q := HLW.out
      rw [← HN.out, List.take_length] at q
      exact q

end Go.Proofs.Ybulkcmcg.Idle
