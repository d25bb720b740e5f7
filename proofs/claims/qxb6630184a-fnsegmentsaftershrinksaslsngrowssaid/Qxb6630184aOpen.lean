/-
  OUR OWN TEXT (by an AI prover). From the reading of an argument to what the walks are told of it: a slice of uint64, a slice of strings.
-/
import Derived.Test.Qxb6630184aGuards
import Derived.ProofKit
import Derived.OpenShut
import Derived.SliceStrings
namespace Go.Proofs.Qxb6630184a
open Go.ChangeShapes Go.WideShapes Go.ChangeAt Go.RowKit

theorem open_view {H : Type} {enc : TypeId × Value → H} {W : World} {a : Option Addr} {len cap : Nat} {d : DataW H} {p : List MemPlace}
    (h : DataW.Trod enc Try.prog W 0 (fun _ => true) true 22 (.slice a len cap) d p) : ∃ Z, View W a len cap Z := by
  obtain ⟨fuel, hf⟩ := h
  rcases open_ints Try.underlying22 Try.underlying24 (by kernel_rfl) hf with ⟨hcs, _⟩ | ⟨x, l, c, zs, hcs, _, hl, hm, hz, _, hcell, hwz⟩
  · simp [Value.cells] at hcs
    obtain ⟨rfl, rfl, rfl⟩ := hcs
    exact ⟨fun _ => 0, ⟨Nat.le_refl _, by omega, .inl rfl, fun _ => by omega⟩⟩
  · simp [Value.cells] at hcs
    obtain ⟨rfl, rfl, rfl⟩ := hcs
    have hz' : zs.length = cap := by simpa using hz
    refine ⟨fun i => zs[i]?.getD 0, ⟨hl, by simpa [maxLen] using hm, ?_, range_u64 hwz⟩⟩
    by_cases h0 : len = 0
    · exact .inl h0
    · right
      obtain ⟨b, off, spot⟩ := x
      have hc := hcell 0 (by omega)
      have hspot : spot = none := by simpa [Addr.add] using World.cell?_spot hc
      subst hspot
      refine ⟨b, off, rfl, World.block_lt_of_cell? W _ hc, fun i hi => ?_⟩
      have := hcell i (by omega)
      rw [Addr.add_lit] at this
      simpa [List.getD] using this

/-- A nil slice has no capacity. -/
theorem open_nil {H : Type} {enc : TypeId × Value → H} {W : World} {len cap : Nat} {d : DataW H} {p : List MemPlace}
    (h : DataW.Trod enc Try.prog W 0 (fun _ => true) true 22 (.slice none len cap) d p) : cap = 0 := by
  obtain ⟨fuel, hf⟩ := h
  rcases open_ints Try.underlying22 Try.underlying24 (by kernel_rfl) hf with ⟨hcs, _⟩ | ⟨x, l, c, zs, hcs, _⟩
  · simp [Value.cells] at hcs
    exact hcs.2
  · simp [Value.cells] at hcs

theorem open_sview {H : Type} {enc : TypeId × Value → H} {W : World} {a : Option Addr} {len cap : Nat} {d : DataW H} {p : List MemPlace}
    (h : DataW.Trod enc Try.prog W 0 (fun _ => true) true 23 (.slice a len cap) d p) : ∃ S, SView W a len cap S := by
  obtain ⟨fuel, hf⟩ := h
  rcases open_strings Try.underlying23 Try.underlying9 (by kernel_rfl) hf with ⟨hcs, _⟩ | ⟨x, l, c, ss, hcs, _, hl, hm, hz, _, hcell, hws⟩
  · simp [Value.cells] at hcs
    obtain ⟨rfl, rfl, rfl⟩ := hcs
    exact ⟨fun _ => ByteArray.empty, ⟨Nat.le_refl _, by omega, .inl rfl, fun _ => by simp⟩⟩
  · simp [Value.cells] at hcs
    obtain ⟨rfl, rfl, rfl⟩ := hcs
    have hz' : ss.length = cap := by simpa using hz
    refine ⟨fun i => ss.getD i ByteArray.empty, ⟨hl, by simpa [maxLen] using hm, ?_, fun i => ?_⟩⟩
    · by_cases h0 : len = 0
      · exact .inl h0
      · right
        obtain ⟨b, off, spot⟩ := x
        have hc := hcell 0 (by omega)
        have hspot : spot = none := by simpa [Addr.add] using World.cell?_spot hc
        subst hspot
        refine ⟨b, off, rfl, World.block_lt_of_cell? W _ hc, fun i hi => ?_⟩
        have := hcell i (by omega)
        rw [Addr.add_lit] at this
        exact this
    · by_cases hi : i < ss.length
      · have := hws (ss[i]) (List.getElem_mem hi)
        simp only [maxLen] at this
        rw [List.getD_eq_getElem?_getD, List.getElem?_eq_getElem hi]
        exact this
      · rw [List.getD_eq_getElem?_getD, List.getElem?_eq_none (by omega)]
        simp

end Go.Proofs.Qxb6630184a
