/-
  Seat b6612962a: a slice of strings that came in, opened for the walks.
-/
import Derived.Test.Qxb6612962aSmall
import Derived.SliceStrings
namespace Go.Proofs.Qxb6612962a.Sets
open Go.ChangeShapes Go.WideShapes Go.RowKit

theorem open_strs {H : Type} {enc : TypeId × Value → H} {W : World} {fuel : Nat} {a : Option Addr} {len cap : Nat} {x : DataW H × List MemPlace}
    (hf : DataW.trod enc Try.prog W 0 (fun _ => true) true fuel 25 (Value.slice a len cap).cells.toList = some x) : ∃ f, Sized len f ∧ Strs W a len f := by
  rcases open_strings Try.underlying25 Try.underlying9 (by kernel_rfl) hf with ⟨hcs, _⟩ | ⟨y, l, c, ss, hcs, _, hl, hm, hz, _, hcell, hws⟩
  · simp [Value.cells] at hcs
    obtain ⟨rfl, rfl, rfl⟩ := hcs
    exact ⟨fun _ => ByteArray.empty, ⟨by omega, fun i hi => by omega⟩, Or.inl rfl⟩
  · simp [Value.cells] at hcs
    obtain ⟨rfl, rfl, rfl⟩ := hcs
    have hzz : ss.length = cap := by simpa using hz
    have hmm : cap ≤ 9223372036854775807 := hm
    refine ⟨fun i => ss.getD i ByteArray.empty, ⟨by omega, fun i hi => ?_⟩, ?_⟩
    · have hi' : i < ss.length := by omega
      have : (ss[i]).size ≤ 9223372036854775807 := hws (ss[i]) (List.getElem_mem hi')
      simpa [List.getD, hi'] using this
    · by_cases h0 : len = 0
      · exact Or.inl h0
      · obtain ⟨b, off, spot⟩ := y
        have hspot : spot = none := by simpa [Addr.add] using World.cell?_spot (hcell 0 (by omega))
        subst hspot
        have hc : ∀ i, i < len → W.cell? ⟨b, off + i, none⟩ = some (.string (ss.getD i ByteArray.empty)) := fun i hi => by rw [← add_plain]; exact hcell i (by omega)
        exact Or.inr ⟨b, off, rfl, World.block_lt_of_cell? _ _ (hc 0 (by omega)), hc⟩
end Go.Proofs.Qxb6612962a.Sets
