/- Where the other text has changed lines, and where a block can stand. Plain. -/
import Derived.Test.Qxb6600671aSingleLaw
namespace Go.Proofs.Qxb6600671a

/-- Of the first j lines of the other text, one that is changed comes after exactly t unchanged ones. -/
def bes (oth : Nat → Bool) : Nat → Nat → Bool
  | 0, _ => false
  | j + 1, t => bes oth j t || (oth j && cntF oth j == t)

theorem bes_iff (oth : Nat → Bool) (m t : Nat) : bes oth m t = true ↔ ∃ j, j < m ∧ oth j = true ∧ cntF oth j = t := by
  induction m with
  | zero => simp [bes]
  | succ m ih =>
    simp only [bes, Bool.or_eq_true, Bool.and_eq_true, beq_iff_eq, ih]
    constructor
    · rintro (⟨j, h1, h2, h3⟩ | ⟨h1, h2⟩)
      · exact ⟨j, by omega, h2, h3⟩
      · exact ⟨m, by omega, h1, h2⟩
    · rintro ⟨j, h1, h2, h3⟩
      by_cases hj : j = m
      · subst hj; exact .inr ⟨h2, h3⟩
      · exact .inl ⟨j, by omega, h2, h3⟩

theorem posL_at (oth : Nat → Bool) (m : Nat) : ∀ i, i < cntF oth m → (posL oth m).getD i 0 < m ∧ oth ((posL oth m).getD i 0) = false ∧ cntF oth ((posL oth m).getD i 0) = i := by
  induction m with
  | zero => intro i hi; simp [cntF] at hi
  | succ m ih =>
    intro i hi
    simp only [cntF] at hi
    simp only [posL]
    cases ho : oth m
    · simp only [ho, Bool.false_eq_true, if_false] at hi ⊢
      have hlen := posL_length oth m
      by_cases him : i < cntF oth m
      · rw [List.getD_eq_getElem?_getD, List.getElem?_append_left (by omega), ← List.getD_eq_getElem?_getD]
        obtain ⟨h1, h2, h3⟩ := ih i him
        exact ⟨by omega, h2, h3⟩
      · obtain rfl : i = cntF oth m := by omega
        rw [List.getD_eq_getElem?_getD, List.getElem?_append_right (by omega), hlen]
        simp [ho]
    · simp only [ho, if_true] at hi ⊢
      obtain ⟨h1, h2, h3⟩ := ih i (by omega)
      exact ⟨by omega, h2, h3⟩

theorem cntF_step {oth : Nat → Bool} {j : Nat} (h : oth j = false) : cntF oth (j + 1) = cntF oth j + 1 := by simp [cntF, h]

/-- Places with the same count of unchanged lines before them, both unchanged, are one. -/
theorem cntF_inj {oth : Nat → Bool} {i j : Nat} (hi : oth i = false) (hj : oth j = false) (h : cntF oth i = cntF oth j) : i = j := by
  rcases Nat.lt_trichotomy i j with h1 | h1 | h1
  · have := cntF_mono oth (show i + 1 ≤ j by omega)
    rw [cntF_step hi] at this
    omega
  · exact h1
  · have := cntF_mono oth (show j + 1 ≤ i by omega)
    rw [cntF_step hj] at this
    omega

theorem besideB_bes (oth : Nat → Bool) (m K t : Nat) (hK : cntF oth m = K) (ht : t ≤ K) : besideB m K (fun i => (posL oth m).getD i 0) t = bes oth m t := by
  have P := posL_at oth m
  rw [hK] at P
  generalize hp : (fun i => (posL oth m).getD i 0) = p
  have P' : ∀ i, i < K → p i < m ∧ oth (p i) = false ∧ cntF oth (p i) = i := fun i hi => by rw [← hp]; exact P i hi
  clear P hp
  have hfrom : ∃ from_, from_ = (if 0 < t then p (t - 1) + 1 else 0) ∧ cntF oth from_ = t ∧ from_ ≤ m := by
    refine ⟨_, rfl, ?_⟩
    by_cases h0 : 0 < t
    · rw [if_pos h0]
      obtain ⟨h1, h2, h3⟩ := P' (t - 1) (by omega)
      rw [cntF_step h2]
      omega
    · rw [if_neg h0]
      obtain rfl : t = 0 := by omega
      exact ⟨rfl, by omega⟩
  obtain ⟨fr, hfr, hfc, hfm⟩ := hfrom
  unfold besideB
  rw [← hfr]
  rw [Bool.eq_iff_iff, bes_iff, decide_eq_true_iff]
  constructor
  · intro hlt
    by_cases htK : t < K
    · rw [if_pos htK] at hlt
      obtain ⟨h1, h2, h3⟩ := P' t htK
      refine ⟨fr, by omega, ?_, hfc⟩
      rcases hof : oth fr with _ | _
      · have := cntF_inj hof h2 (by omega)
        omega
      · rfl
    · rw [if_neg htK] at hlt
      refine ⟨fr, hlt, ?_, hfc⟩
      rcases hof : oth fr with _ | _
      · have h5 := cntF_step hof
        have := cntF_mono oth (show fr + 1 ≤ m by omega)
        omega
      · rfl
  · rintro ⟨j, hj, hoj, hcj⟩
    have h1 : fr ≤ j := by
      rcases Nat.lt_or_ge j fr with h2 | h2
      · by_cases h0 : 0 < t
        · rw [if_pos h0] at hfr
          obtain ⟨h3, h4, h5⟩ := P' (t - 1) (by omega)
          have := cntF_mono oth (show j ≤ p (t - 1) by omega)
          omega
        · rw [if_neg h0] at hfr
          omega
      · exact h2
    by_cases htK : t < K
    · rw [if_pos htK]
      obtain ⟨h3, h4, h5⟩ := P' t htK
      rcases Nat.lt_trichotomy j (p t) with h6 | h6 | h6
      · omega
      · rw [h6, h4] at hoj; cases hoj
      · have := cntF_mono oth (show p t + 1 ≤ j by omega)
        rw [cntF_step h4] at this
        omega
    · rw [if_neg htK]
      omega

/-- There is such a band. -/
theorem band_hi (num : Nat → Int) (n l : Nat) : ∀ d s, d + s + l = n → ∃ hi, s ≤ hi ∧ hi + l ≤ n ∧ (∀ t, s ≤ t → t < hi → num t = num (t + l)) ∧ (hi + l = n ∨ num hi ≠ num (hi + l)) := by
  intro d
  induction d with
  | zero => intro s h; exact ⟨s, Nat.le_refl _, by omega, fun t h1 h2 => by omega, .inl (by omega)⟩
  | succ d ih =>
    intro s h
    by_cases he : num s = num (s + l)
    · obtain ⟨hi, h1, h2, h3, h4⟩ := ih (s + 1) (by omega)
      refine ⟨hi, by omega, h2, fun t h5 h6 => ?_, h4⟩
      by_cases ht : t = s
      · rw [ht]; exact he
      · exact h3 t (by omega) h6
    · exact ⟨s, Nat.le_refl _, by omega, fun t h1 h2 => by omega, .inr he⟩

theorem band_lo (num : Nat → Int) (l : Nat) : ∀ s, ∃ lo, lo ≤ s ∧ (∀ t, lo ≤ t → t < s → num t = num (t + l)) ∧ (lo = 0 ∨ num (lo - 1) ≠ num (lo - 1 + l)) := by
  intro s
  induction s with
  | zero => exact ⟨0, Nat.le_refl _, fun t h1 h2 => by omega, .inl rfl⟩
  | succ s ih =>
    by_cases he : num s = num (s + l)
    · obtain ⟨lo, h1, h2, h3⟩ := ih
      refine ⟨lo, by omega, fun t h4 h5 => ?_, h3⟩
      by_cases ht : t = s
      · rw [ht]; exact he
      · exact h2 t h4 (by omega)
    · exact ⟨s + 1, Nat.le_refl _, fun t h1 h2 => by omega, .inr (by simpa using he)⟩

theorem band_exists (num : Nat → Int) (n l s0 : Nat) (hl : 0 < l) (hf : s0 + l ≤ n) : ∃ lo hi, Band num n l s0 lo hi := by
  obtain ⟨hi, h1, h2, h3, h4⟩ := band_hi num n l (n - l - s0) s0 (by omega)
  obtain ⟨lo, g1, g2, g3⟩ := band_lo num l s0
  refine ⟨lo, hi, hl, hf, g1, h1, h2, fun t a b => ?_, g3, h4⟩
  rcases Nat.lt_or_ge t s0 with h | h
  · exact g2 t a h
  · exact h3 t h b

/-- The text without the block at s. -/
def restV (num : Nat → Int) (s l i : Nat) : Int := if i < s then num i else num (i + l)

theorem band_p {num : Nat → Int} {n l s0 lo hi : Nat} (B : Band num n l s0 lo hi) {k : Nat} (h : k < hi) : num k = restV num s0 l k := by
  unfold restV
  split
  · rfl
  · have := B.lo_le; exact B.slide k (by omega) h

theorem band_p_end {num : Nat → Int} {n l s0 lo hi : Nat} (B : Band num n l s0 lo hi) (h : hi + l < n) : num hi ≠ restV num s0 l hi := by
  unfold restV
  rw [if_neg (by have := B.le_hi; omega)]
  rcases B.hi_end with h1 | h1
  · omega
  · exact h1

theorem band_q {num : Nat → Int} {n l s0 lo hi : Nat} (B : Band num n l s0 lo hi) {i : Nat} (h : lo ≤ i) : num (i + l) = restV num s0 l i := by
  unfold restV
  split
  · have := B.le_hi; exact (B.slide i h (by omega)).symm
  · rfl

theorem band_q_end {num : Nat → Int} {n l s0 lo hi : Nat} (B : Band num n l s0 lo hi) (h : 0 < lo) : num (lo - 1 + l) ≠ restV num s0 l (lo - 1) := by
  unfold restV
  rw [if_pos (by have := B.lo_le; omega)]
  rcases B.lo_end with h1 | h1
  · omega
  · exact Ne.symm h1

end Go.Proofs.Qxb6600671a
