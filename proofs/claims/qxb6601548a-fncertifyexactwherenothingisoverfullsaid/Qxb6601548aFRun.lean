/- Floats in a run: min, max, clear, 'v - v'. -/
import Derived.Test.Qxb6601548aSmall
import Derived.Test.Qxb6601548aCertLaw
import Derived.Laws.Cover2
namespace Go.Proofs.Qxb6601548a
open Go.RowKit

theorem run_fmin (w : World) (ats : Array TypeId) (ty : TypeId) (x y : Nat) (h : ∃ o, Ieee.double.order x y = some o) : (Builtin.min_ ats ty #[.float .f64 x, .float .f64 y]).run Try.prog w = .ok (.float .f64 (fmin x y)) w := by
  obtain ⟨o, ho⟩ := h
  have ho' : FloatKind.f64.format.order x y = some o := ho
  cases o <;> simp [Builtin.min_, Builtin.min2, ho', fmin, ho] <;> rfl

theorem run_fmax (w : World) (ats : Array TypeId) (ty : TypeId) (x y : Nat) (h : ∃ o, Ieee.double.order x y = some o) : (Builtin.max_ ats ty #[.float .f64 x, .float .f64 y]).run Try.prog w = .ok (.float .f64 (fmax x y)) w := by
  obtain ⟨o, ho⟩ := h
  have ho' : FloatKind.f64.format.order x y = some o := ho
  cases o <;> simp [Builtin.max_, Builtin.max2, ho', fmax, ho] <;> rfl

theorem setCells_only (b : Nat) : ∀ (vs : List Value) (o : Nat) (w : World), Only [b] w (w.setCells b o vs)
  | [], _, w => Only.refl _ w
  | v :: r, o, w => ((Only.refl _ w).setCell (p := ⟨b, o, none⟩) (fun _ => by simp) v).trans (setCells_only b r (o + 1) _)

theorem setCells_arr (b : Nat) (z : Value) {n : Nat} {e : TypeId} : ∀ (k o : Nat) (w : World) (f : Nat → Value), Arr w b n e f → Arr (w.setCells b o (List.replicate k z)) b n e (fun j => if o ≤ j ∧ j < o + k then z else f j)
  | 0, o, w, f, h => h.congr (fun j _ => by rw [if_neg (by omega)])
  | k + 1, o, w, f, h => by
    have := setCells_arr b z k (o + 1) _ _ (h.set o z)
    refine Arr.congr this (fun j _ => ?_)
    by_cases hj : j = o
    · subst hj
      rw [if_neg (by omega), if_pos (by omega), upd_same]
    · rw [upd_other _ _ hj]
      by_cases h2 : o + 1 ≤ j ∧ j < o + 1 + k
      · rw [if_pos h2, if_pos (by omega)]
      · rw [if_neg h2, if_neg (by omega)]

theorem run_zeroF (w : World) : (zeroValue 34).run Try.prog w = .ok (.float .f64 0) w := by
  have h : Try.t34.zero = some (.float .f64 0) := by kernel_rfl
  simp [zeroValue, h]

/-- 'clear' of a slice of floats. -/
theorem run_clearF (w : World) (ty : TypeId) (b n c : Nat) (f : Nat → Nat) (h : Arr w b n 34 (fun i => .float .f64 (f i))) :
    ∃ w', (Builtin.clear_ #[22] ty #[.slice (some ⟨b, 0, none⟩) n c]).run Try.prog w = .ok (.tuple #[]) w' ∧ Arr w' b n 34 (fun _ => .float .f64 0) ∧ Only [b] w w' := by
  by_cases hn : n = 0
  · subst hn
    refine ⟨w, ?_, h.congr (fun j hj => by omega), Only.refl _ _⟩
    simp [Builtin.clear_, run_underlying Try.underlying22]
  · refine ⟨_, Lib.run_clear_slice w 22 34 ty (.float .f64 0) Try.underlying22 run_zeroF rfl rfl b 0 n c (by omega) (fun j hj => by rw [Nat.zero_add, h.cell hj]; rfl) (fun j _ => h.frozen _), ?_, setCells_only _ _ _ _⟩
    exact Arr.congr (setCells_arr b _ n 0 w _ h) (fun j hj => by rw [if_pos (by omega)])

/-- A NaN's word has no order. -/
theorem nan_order (t : Nat) (q : Question) (hq : ∃ x y, q = .nanBits .f64 x y) : Ieee.double.order (q.cut t) 0 = none := by
  obtain ⟨x, y, rfl⟩ := hq
  show Ieee.double.order ((t % 2) * 2 ^ 63 + 0x7ff0000000000000 + 1 + (t / 2) % (2 ^ 52 - 1)) 0 = none
  have h1 : t % 2 = 0 ∨ t % 2 = 1 := by omega
  have h2 := Nat.mod_lt (t / 2) (show 0 < 2 ^ 52 - 1 by decide)
  generalize (t / 2) % (2 ^ 52 - 1) = u at *
  unfold Ieee.Format.order
  rw [read_zero]
  have : ∃ s f, Ieee.double.read ((t % 2) * 2 ^ 63 + 0x7ff0000000000000 + 1 + u) = .nan s f := by
    unfold Ieee.Format.read
    simp only [sw, bin, infr, lp]
    have e1 : ((t % 2) * 2 ^ 63 + 0x7ff0000000000000 + 1 + u) % 9223372036854775808 = 0x7ff0000000000000 + 1 + u := by
      rcases h1 with h1 | h1 <;> rw [h1] <;> omega
    rw [e1]
    unfold INF
    rw [if_neg (by omega), if_neg (by omega), if_neg (by omega)]
    exact ⟨_, _, rfl⟩
  obtain ⟨s, f, hh⟩ := this
  rw [hh]
  rfl

/-- 'v - v != 0': false for a number, true for the others (a NaN is drawn). -/
theorem run_subself (v : Nat) (w : World) : (Fin v ∧ (binOp .sub 34 (.float .f64 v) (.float .f64 v)).run Try.prog w = .ok (.float .f64 0) w) ∨
    (¬ Fin v ∧ ∃ r, (binOp .sub 34 (.float .f64 v) (.float .f64 v)).run Try.prog w = .ok (.float .f64 r) w.drew ∧ Ieee.double.order r 0 = none) := by
  rcases sub_self (v := v) with ⟨h1, h2⟩ | ⟨h1, h2⟩
  · exact .inl ⟨h1, run_float_arith w .sub 34 .f64 v v 0 h2⟩
  · refine .inr ⟨h1, _, ?_, nan_order (w.tape w.drawn (.nanBits .f64 v v)) (.nanBits .f64 v v) ⟨v, v, rfl⟩⟩
    have h2' : FloatKind.f64.format.sub v v = none := h2
    simp [binOp, Op.floatArith, h2']
    intro h
    cases h

end Go.Proofs.Qxb6601548a
