/-
  SEAT b4395a: a slice of int32, and a slice of slices of int32, that came in: what the walks are told of them.
-/
import Derived.Test.YbulkclzoKnown
import Derived.Deep.Matrix
namespace Go.Proofs.Ybulkclzo.Seq
open Go.ChangeShapes Go.WideShapes Go.ChangeAt Go.RowKit

theorem reads_nil (W : World) : Reads W (.slice none 0 0) [] := ⟨none, 0, rfl, fun _ => ⟨rfl, rfl⟩, fun i hi => absurd hi (by simp)⟩

theorem reads_some {W : World} {a : Addr} {len cap : Nat} {zs : List Int} (hl : len ≤ cap) (hz : zs.length = cap) (hcell : ∀ i, i < zs.length → W.cell? (a.add i) = some (.int .i32 (zs.getD i 0))) :
    Reads W (.slice (some a) len cap) (zs.take len) := by
  have hlen : (zs.take len).length = len := by rw [List.length_take]; omega
  refine ⟨some a, cap, by rw [hlen], fun e => (by cases e), fun i hi => ?_⟩
  rw [hlen] at hi
  obtain ⟨b, off, rfl, hc⟩ := ints_at hcell (by omega)
  refine ⟨b, off, rfl, ?_⟩
  rw [hc i (by omega)]
  simp [hi]

theorem reads_of {H : Type} {enc : TypeId × Value → H} {W : World} {a : Option Addr} {len cap : Nat} {d : DataW H} {pl : List MemPlace}
    (h : DataW.Trod enc Yba.prog W 0 (fun _ => true) true 30 (.slice a len cap) d pl) : ∃ xs, Reads W (.slice a len cap) xs := by
  obtain ⟨fuel, hf⟩ := h
  rcases open_ints Yba.underlying30 Yba.underlying21 (by kernel_rfl) hf with ⟨hcs, _⟩ | ⟨x, l, c, zs, hcs, _, hl, hm, hz, _, hcell, hwz⟩
  · simp [Value.cells] at hcs
    obtain ⟨rfl, rfl, rfl⟩ := hcs
    exact ⟨[], reads_nil W⟩
  · simp [Value.cells] at hcs
    obtain ⟨rfl, rfl, rfl⟩ := hcs
    exact ⟨_, reads_some hl (by simpa using hz) hcell⟩

theorem readsAll_of {H : Type} {enc : TypeId × Value → H} {W : World} {a : Option Addr} {len cap : Nat} {d : DataW H} {pl : List MemPlace}
    (h : DataW.Trod enc Yba.prog W 0 (fun _ => true) true 29 (.slice a len cap) d pl) : ∃ xss, ReadsAll W (.slice a len cap) xss := by
  obtain ⟨fuel, hf⟩ := h
  rcases Go.Deep.open_int_rows Yba.underlying29 Yba.underlying30 Yba.underlying21 (by kernel_rfl) (by kernel_rfl) hf with ⟨hcs, _⟩ | ⟨x, l, c, A, L, C, Z, hcs, _, hl, hm, _, hr⟩
  · simp [Value.cells] at hcs
    obtain ⟨rfl, rfl, rfl⟩ := hcs
    exact ⟨[], none, 0, rfl, fun i hi => absurd hi (by simp)⟩
  · simp [Value.cells] at hcs
    obtain ⟨rfl, rfl, rfl⟩ := hcs
    refine ⟨(List.range len).map fun r => (Z r).take (L r), some x, cap, by simp, fun i hi => ?_⟩
    have hi' : i < len := by simpa using hi
    obtain ⟨h1, h2, h3, h4, h5, h6, h7⟩ := hr i (by omega)
    have h00 := (hr 0 (by omega)).1
    have hx : ∃ b off, x = ⟨b, off, none⟩ := by
      obtain ⟨b, off, spot⟩ := x
      have hspot : spot = none := by simpa [Addr.add] using World.cell?_spot h00
      subst hspot
      exact ⟨b, off, rfl⟩
    obtain ⟨b, off, rfl⟩ := hx
    refine ⟨b, off, _, rfl, by rw [← add_plain']; exact h1, ?_⟩
    have hg : ((List.range len).map fun r => (Z r).take (L r)).getD i [] = (Z i).take (L i) := by simp [hi']
    rw [hg]
    cases hA : A i with
    | none =>
      have hC := h6 hA
      have hL : L i = 0 := by omega
      rw [hL, hC]
      exact reads_nil W
    | some a' =>
      obtain ⟨_, h8⟩ := h7 a' hA
      exact reads_some h2 h4 (fun c hc => h8 c (by omega))

end Go.Proofs.Ybulkclzo.Seq
