/- The slices that come in, as the walks want them. -/
import Derived.Test.Qxb6600815aSmall
import Derived.ProofKit
import Derived.OpenShut
import Derived.SliceStrings
namespace Go.Proofs.Qxb6600815a
open Go.ChangeShapes Go.WideShapes Go.ChangeAt Go.RowKit

theorem Try.own : ownKnob Try.prog.godebug = none := by kernel_rfl
theorem Try.laidOut : laidOutB Try.prog = true := by kernel_rfl
theorem Try.cells9 : Try.prog.cellsOf 9 = 1 := by kernel_rfl

theorem reads_of_row {W : World} {x : Addr} {len : Nat} {f : Nat → Value} (h : ∀ i, i < len → W.cell? (x.add i) = some (f i)) : Reads W (some x) len f := by
  by_cases h0 : len = 0
  · exact .inl h0
  · obtain ⟨b, off, spot⟩ := x
    have hs : spot = none := by simpa [Addr.add] using World.cell?_spot (h 0 (by omega))
    subst hs
    have hc : ∀ i, i < len → W.cell? ⟨b, off + i, none⟩ = some (f i) := fun i hi => by rw [← add_plain]; exact h i hi
    exact .inr ⟨b, off, rfl, World.block_lt_of_cell? _ _ (hc 0 (by omega)), hc⟩

theorem in_strs {H : Type} {enc : TypeId × Value → H} {W : World} {a : Option Addr} {len cap : Nat} {d : DataW H} {p : List MemPlace}
    (h : DataW.Trod enc Try.prog W 0 (fun _ => true) true 22 (.slice a len cap) d p) :
    ∃ f : Nat → ByteArray, Reads W a len (fun i => .string (f i)) ∧ Short f len ∧ len ≤ 9223372036854775807 := by
  obtain ⟨fuel, hf⟩ := h
  rcases open_strings Try.underlying22 Try.underlying9 Try.cells9 hf with ⟨hcs, _⟩ | ⟨x, l, c, zs, hcs, _, hl, hm, hz, _, hcell, hsz⟩
  · simp [Value.cells] at hcs
    obtain ⟨rfl, rfl, rfl⟩ := hcs
    exact ⟨fun _ => ByteArray.empty, .inl rfl, fun i hi => by omega, by omega⟩
  · simp [Value.cells] at hcs
    obtain ⟨rfl, rfl, rfl⟩ := hcs
    simp only [if_true] at hz
    unfold maxLen at hm hsz
    refine ⟨fun i => zs.getD i ByteArray.empty, reads_of_row (fun i hi => hcell i (by omega)), fun i hi => ?_, by omega⟩
    refine hsz _ ?_
    show zs.getD i ByteArray.empty ∈ zs
    rw [List.getD_eq_getElem?_getD, List.getElem?_eq_getElem (by omega)]
    exact List.getElem_mem _

end Go.Proofs.Qxb6600815a
