/-
  OUR OWN TEXT (by an AI prover). From the reading of an argument to what the walks are told of it: a slice of strings.
-/
import Derived.Test.Qxb6630208aChecks
import Derived.ProofKit
import Derived.OpenShut
import Derived.SliceStrings
namespace Go.Proofs.Qxb6630208a
open Go.ChangeShapes Go.WideShapes Go.ChangeAt Go.RowKit

theorem open_sview {H : Type} {enc : TypeId × Value → H} {W : World} {a : Option Addr} {len cap : Nat} {d : DataW H} {p : List MemPlace}
    (h : DataW.Trod enc Try.prog W 0 (fun _ => true) true 22 (.slice a len cap) d p) : ∃ S, SView W a len cap S := by
  obtain ⟨fuel, hf⟩ := h
  rcases open_strings Try.underlying22 Try.underlying9 (by kernel_rfl) hf with ⟨hcs, _⟩ | ⟨x, l, c, ss, hcs, _, hl, hm, hz, _, hcell, hws⟩
  · simp [Value.cells] at hcs
    obtain ⟨rfl, rfl, rfl⟩ := hcs
    exact ⟨fun _ => ByteArray.empty, ⟨Nat.le_refl _, by omega, .inl rfl, fun _ => by simp⟩⟩
  · simp [Value.cells] at hcs
    obtain ⟨rfl, rfl, rfl⟩ := hcs
    have hz' : ss.length = cap := by simpa using hz
    refine ⟨fun i => ss.getD i ByteArray.empty, ⟨hl, by simpa [maxLen] using hm, ?_, fun i => ?_⟩⟩
    · by_cases h0 : len = 0
      · exact .inl h0
      · right
        obtain ⟨b, off, spot⟩ := x
        have hc := hcell 0 (by omega)
        have hspot : spot = none := by simpa [Addr.add] using World.cell?_spot hc
        subst hspot
        refine ⟨b, off, rfl, World.block_lt_of_cell? W _ hc, fun i hi => ?_⟩
        have := hcell i (by omega)
        rw [Addr.add_lit] at this
        exact this
    · by_cases hi : i < ss.length
      · have := hws (ss[i]) (List.getElem_mem hi)
        simp only [maxLen] at this
        rw [List.getD_eq_getElem?_getD, List.getElem?_eq_getElem hi]
        exact this
      · rw [List.getD_eq_getElem?_getD, List.getElem?_eq_none (by omega)]
        simp

end Go.Proofs.Qxb6630208a
