/- The slices that come in, as the walks want them. -/
import Derived.Test.Qxb6601548aSmall
import Derived.ProofKit
import Derived.OpenShut
import Derived.Deep.Grids
namespace Go.Proofs.Qxb6601548a
open Go.ChangeShapes Go.WideShapes Go.ChangeAt Go.RowKit

theorem Try.own : ownKnob Try.prog.godebug = none := by kernel_rfl
theorem Try.laidOut : laidOutB Try.prog = true := by kernel_rfl
theorem Try.cells34 : Try.prog.cellsOf 34 = 1 := by kernel_rfl
theorem Try.cells35 : Try.prog.cellsOf 35 = 1 := by kernel_rfl
theorem Try.cells21 : Try.prog.cellsOf 21 = 1 := by kernel_rfl
theorem Try.cells3 : Try.prog.cellsOf 3 = 1 := by kernel_rfl

theorem reads_of_row {W : World} {x : Addr} {len : Nat} {f : Nat → Value} (h : ∀ i, i < len → W.cell? (x.add i) = some (f i)) : Reads W (some x) len f := by
  by_cases h0 : len = 0
  · exact .inl h0
  · obtain ⟨b, off, spot⟩ := x
    have hs : spot = none := by simpa [Addr.add] using World.cell?_spot (h 0 (by omega))
    subst hs
    have hc : ∀ i, i < len → W.cell? ⟨b, off + i, none⟩ = some (f i) := fun i hi => by rw [← add_plain]; exact h i hi
    exact .inr ⟨b, off, rfl, World.block_lt_of_cell? _ _ (hc 0 (by omega)), hc⟩

theorem in_ints {H : Type} {enc : TypeId × Value → H} {W : World} {a : Option Addr} {len cap : Nat} {d : DataW H} {p : List MemPlace} {t e : TypeId} {k : IntKind}
    (ht : Try.prog.underlying t = some (.slice e)) (he : Try.prog.underlying e = some (.int k)) (hc : Try.prog.cellsOf e = 1) (h0 : (Lit.int k 0).wf = true)
    (h : DataW.Trod enc Try.prog W 0 (fun _ => true) true t (.slice a len cap) d p) :
    ∃ f : Nat → Int, (∀ i, (Lit.int k (f i)).wf = true) ∧ Reads W a len (fun i => .int k (f i)) ∧ (a = none → len = 0 ∧ cap = 0) ∧ len ≤ maxLen := by
  obtain ⟨fuel, hf⟩ := h
  rcases open_ints ht he hc hf with ⟨hcs, _⟩ | ⟨x, l, c, zs, hcs, _, hl, hm, hz, _, hcell, hwf⟩
  · simp [Value.cells] at hcs
    obtain ⟨rfl, rfl, rfl⟩ := hcs
    exact ⟨fun _ => 0, fun _ => h0, .inl rfl, fun _ => ⟨rfl, rfl⟩, Nat.zero_le _⟩
  · simp [Value.cells] at hcs
    obtain ⟨rfl, rfl, rfl⟩ := hcs
    simp only [if_true] at hz
    refine ⟨fun i => zs.getD i 0, fun i => ?_, reads_of_row (fun i hi => hcell i (by omega)), fun h => by simp at h, by omega⟩
    by_cases hi : i < zs.length
    · have : zs.getD i 0 = zs[i] := by simp [hi]
      show (Lit.int k (zs.getD i 0)).wf = true
      rw [this]
      exact hwf _ (List.getElem_mem hi)
    · have : zs.getD i 0 = 0 := by simp [List.getElem?_eq_none (Nat.le_of_not_lt hi)]
      show (Lit.int k (zs.getD i 0)).wf = true
      rw [this]
      exact h0

theorem in_floats {H : Type} {enc : TypeId × Value → H} {W : World} {a : Option Addr} {len cap : Nat} {d : DataW H} {p : List MemPlace}
    (h : DataW.Trod enc Try.prog W 0 (fun _ => true) true 22 (.slice a len cap) d p) :
    ∃ f : Nat → Nat, (∀ i, f i < 18446744073709551616) ∧ Reads W a len (fun i => .float .f64 (f i)) ∧ (a = none → len = 0 ∧ cap = 0) ∧ len ≤ maxLen := by
  obtain ⟨fuel, hf⟩ := h
  rcases Go.Deep.open_slice1 Try.underlying22 Try.cells34 hf with ⟨hcs, _⟩ | ⟨x, l, c, m, n, V, D, Pl, hcs, _, hl, hm, hmm, _, hx⟩
  · simp [Value.cells] at hcs
    obtain ⟨rfl, rfl, rfl⟩ := hcs
    exact ⟨fun _ => 0, fun _ => (show 0 < 18446744073709551616 by decide), .inl rfl, fun _ => ⟨rfl, rfl⟩, Nat.zero_le _⟩
  · simp [Value.cells] at hcs
    obtain ⟨rfl, rfl, rfl⟩ := hcs
    simp only [if_true] at hmm
    subst hmm
    have hV : ∀ i, i < m → ∃ b, V i = .float .f64 b ∧ b < 18446744073709551616 := by
      intro i hi
      have h2 := (hx i hi).2
      cases n with
      | zero => simp [DataW.trod] at h2
      | succ n =>
        simp only [DataW.trod, Try.underlying34] at h2
        cases hv : V i <;> rw [hv] at h2 <;> simp at h2
        next k b =>
          obtain ⟨⟨rfl, hw⟩, _⟩ := h2
          refine ⟨b, rfl, ?_⟩
          simpa [Lit.wf, FloatKind.has] using hw
    obtain ⟨f, hf⟩ := Go.Deep.choose_lt (α := Nat) (p := fun i b => V i = .float .f64 b ∧ b < 18446744073709551616) hV
    refine ⟨fun i => if i < m then f i else 0, fun i => ?_, reads_of_row (fun i hi => ?_), fun h => by simp at h, by omega⟩
    · show (if i < m then f i else 0) < 18446744073709551616
      split
      · next h => exact (hf i h).2
      · decide
    · show _ = some (Value.float FloatKind.f64 (if i < m then f i else 0))
      rw [if_pos (by omega), (hx i (by omega)).1, (hf i (by omega)).1]

theorem wf_i32 {n : Int} (h : (Lit.int .i32 n).wf = true) : -2147483648 ≤ n ∧ n < 2147483648 := by
  have h1 : IntKind.i32.min = -2147483648 := by decide
  have h2 : IntKind.i32.max = 2147483647 := by decide
  simp [Lit.wf, h1, h2] at h
  omega

end Go.Proofs.Qxb6601548a
