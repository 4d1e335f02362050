/- A single run of changed lines, and where 'compact' leaves it. Plain. -/
import Derived.Test.Qxb6600671aCompactMem
namespace Go.Proofs.Qxb6600671a

/-- The block of l changed lines at s. -/
def Blk (l s j : Nat) : Bool := decide (s ≤ j) && decide (j < s + l)

theorem Blk_true {l s j : Nat} : Blk l s j = true ↔ s ≤ j ∧ j < s + l := by simp [Blk]
theorem Blk_false {l s j : Nat} : Blk l s j = false ↔ ¬ (s ≤ j ∧ j < s + l) := by
  rw [← Blk_true]; simp

/-- The block can stand anywhere from lo to hi, and nowhere around. -/
structure Band (num : Nat → Int) (n l s0 lo hi : Nat) : Prop where
  pos : 0 < l
  fit : s0 + l ≤ n
  lo_le : lo ≤ s0
  le_hi : s0 ≤ hi
  hi_le : hi + l ≤ n
  slide : ∀ t, lo ≤ t → t < hi → num t = num (t + l)
  lo_end : lo = 0 ∨ num (lo - 1) ≠ num (lo - 1 + l)
  hi_end : hi + l = n ∨ num hi ≠ num (hi + l)

/-- The place where 'compact' leaves the block. -/
def Tgt (bo : Nat → Bool) (lo hi t : Nat) : Prop :=
  lo ≤ t ∧ t ≤ hi ∧ ((bo t = true ∧ ∀ u, t < u → u ≤ hi → bo u = false) ∨ (t = hi ∧ ∀ u, lo ≤ u → u ≤ hi → bo u = false))

def IsBlk (n l : Nat) (ch : Nat → Bool) (s : Nat) : Prop := ∀ j, j < n → ch j = Blk l s j

def SOut (bo : Nat → Bool) (n l s0 lo hi : Nat) (ch : Nat → Bool) (i : Nat) : Prop :=
  (i ≤ s0 ∧ IsBlk n l ch s0) ∨ ∃ t, Tgt bo lo hi t ∧ IsBlk n l ch t ∧ t + l ≤ i

def SMid (n l lo hi : Nat) (ch : Nat → Bool) (s e : Nat) : Prop := e = s + l ∧ IsBlk n l ch s ∧ lo ≤ s ∧ s ≤ hi

def SLast (bo : Nat → Bool) (l lo s : Nat) (b : Int) : Prop :=
  (b = -1 ∧ ∀ u, lo ≤ u → u ≤ s → bo u = false) ∨ ∃ t : Nat, lo ≤ t ∧ t ≤ s ∧ bo t = true ∧ b = ((t + l : Nat) : Int) ∧ ∀ u, t < u → u ≤ s → bo u = false

def SDn (bo : Nat → Bool) (n l lo hi : Nat) (ch : Nat → Bool) (s e : Nat) (b : Int) : Prop := SMid n l lo hi ch s e ∧ SLast bo l lo s b

def SBk (bo : Nat → Bool) (n l lo hi : Nat) (ch : Nat → Bool) (s e : Nat) (b : Int) : Prop := SMid n l lo hi ch s e ∧ SLast bo l lo hi b ∧ (b = -1 → s = hi) ∧ (0 ≤ b → b ≤ (e : Int))

theorem isBlk_cnt {n l : Nat} {ch : Nat → Bool} {s : Nat} (h : IsBlk n l ch s) (hs : s ≤ n) : cntF ch s = s := by
  rw [cntF_congr (g := fun _ => false) (fun j hj => by rw [h j (by omega), Blk_false]; omega)]
  clear hs h
  induction s with
  | zero => rfl
  | succ s ih => simp [cntF, ih]

theorem isBlk_up {n l : Nat} {ch : Nat → Bool} {s : Nat} (h : IsBlk n l ch s) (hl : 0 < l) (hs : 0 < s) (_hn : s + l ≤ n) : IsBlk n l (moveUp ch s (s + l)) (s - 1) := by
  intro j hj
  unfold moveUp
  by_cases h1 : j = s + l - 1
  · rw [h1, updB_same]; exact (Blk_false.2 (by omega)).symm
  · rw [updB_other _ _ h1]
    by_cases h2 : j = s - 1
    · rw [h2, updB_same]; exact (Blk_true.2 (by omega)).symm
    · rw [updB_other _ _ h2, h j hj]
      simp only [Blk]
      congr 1 <;> (apply decide_eq_decide.2; omega)

theorem isBlk_down {n l : Nat} {ch : Nat → Bool} {s : Nat} (h : IsBlk n l ch s) (hl : 0 < l) (_hn : s + l < n) : IsBlk n l (moveDown ch s (s + l)) (s + 1) := by
  intro j hj
  unfold moveDown
  by_cases h1 : j = s + l
  · rw [h1, updB_same]; exact (Blk_true.2 (by omega)).symm
  · rw [updB_other _ _ h1]
    by_cases h2 : j = s
    · rw [h2, updB_same]; exact (Blk_false.2 (by omega)).symm
    · rw [updB_other _ _ h2, h j hj]
      by_cases hb : s ≤ j ∧ j < s + l
      · rw [Blk_true.2 hb, Blk_true.2 (by omega)]
      · rw [Blk_false.2 hb, Blk_false.2 (by omega)]

theorem isBlk_start {n K l : Nat} {ch : Nat → Bool} {s s' e' : Nat} (h : IsBlk n l ch s) (hr : Runs n K ch s' e') : s ≤ s' ∧ e' ≤ s + l := by
  have h1 := hr.all s' (Nat.le_refl _) hr.lt
  have hlt := hr.lt
  have hle := hr.le
  rw [h s' (by omega)] at h1
  have h2 := hr.all (e' - 1) (by omega) (by omega)
  rw [h (e' - 1) (by omega)] at h2
  have := Blk_true.1 h1
  have := Blk_true.1 h2
  omega

/-- A run in a marking with one block is that block. -/
theorem isBlk_runs {n K l : Nat} {ch : Nat → Bool} {s s' e' : Nat} (h : IsBlk n l ch s) (hn : s + l ≤ n) (hr : Runs n K ch s' e') : s' = s ∧ e' = s + l := by
  obtain ⟨h1, h2⟩ := isBlk_start h hr
  have hlt := hr.lt
  constructor
  · rcases hr.left with h3 | h3
    · omega
    · rw [h (s' - 1) (by omega)] at h3
      have := Blk_false.1 h3
      omega
  · rcases hr.right with h3 | h3
    · omega
    · rcases Nat.lt_or_ge e' n with h4 | h4
      · rw [h e' h4] at h3
        have := Blk_false.1 h3
        omega
      · omega

theorem single_vc (num : Nat → Int) (n K l s0 lo hi : Nat) (bo ch0 : Nat → Bool) (B : Band num n l s0 lo hi) (h0 : IsBlk n l ch0 s0) :
    CVC num n K bo ch0 (SOut bo n l s0 lo hi) (SMid n l lo hi) (SDn bo n l lo hi) (SBk bo n l lo hi) := by
  have hl := B.pos
  have hf := B.fit
  have hlo := B.lo_le
  have hhi := B.le_hi
  have hhn := B.hi_le
  refine ⟨.inl ⟨Nat.zero_le _, h0⟩, ?_, ?_, ?_, ?_, ?_, ?_, ?_, ?_, ?_⟩
  · rintro ch i (⟨h1, h2⟩ | ⟨t, h1, h2, h3⟩) hi' hc
    · refine .inl ⟨?_, h2⟩
      rw [h2 i hi'] at hc
      have := Blk_false.1 hc
      omega
    · exact .inr ⟨t, h1, h2, by omega⟩
  · rintro ch i e (⟨h1, h2⟩ | ⟨t, h1, h2, h3⟩) hr
    · obtain ⟨rfl, rfl⟩ := isBlk_runs h2 hf hr
      exact ⟨rfl, h2, hlo, hhi⟩
    · obtain ⟨rfl, rfl⟩ := isBlk_runs h2 (by have := h1.2.1; omega) hr
      omega
  · rintro ch s e s' ⟨rfl, h1, h2, h3⟩ hr hs hnum hs' hr'
    have hb := isBlk_up h1 hl hs (by omega)
    obtain ⟨rfl, h5⟩ := isBlk_runs hb (by omega) hr'
    refine ⟨h5, hb, ?_, by omega⟩
    rcases Nat.lt_or_ge lo s with h6 | h6
    · omega
    · have h7 : s = lo := by omega
      subst h7
      rcases B.lo_end with h8 | h8
      · omega
      · rw [show s + l - 1 = s - 1 + l by omega] at hnum
        exact absurd hnum h8
  · rintro ch s e ⟨rfl, h1, h2, h3⟩ hr hst
    have hsl : s = lo := by
      rcases Nat.lt_or_ge lo s with h6 | h6
      · have h7 := B.slide (s - 1) (by omega) (by omega)
        rcases hst with h8 | h8
        · omega
        · rw [show s + l - 1 = s - 1 + l by omega] at h8
          exact absurd h7 h8
      · omega
    refine ⟨⟨rfl, h1, h2, h3⟩, ?_⟩
    rw [isBlk_cnt h1 (by omega)]
    by_cases hb : bo s = true
    · rw [if_pos hb]
      exact .inr ⟨s, h2, Nat.le_refl _, hb, rfl, fun u h4 h5 => by omega⟩
    · rw [if_neg hb]
      exact .inl ⟨rfl, fun u h4 h5 => by rw [show u = s by omega]; simpa using hb⟩
  · rintro ch s e e' b ⟨⟨rfl, h1, h2, h3⟩, hL⟩ hr hen hnum he' hr'
    have hb := isBlk_down h1 hl hen
    obtain ⟨-, h5⟩ := isBlk_runs hb (by omega) hr'
    have hsh : s + 1 ≤ hi := by
      rcases Nat.lt_or_ge s hi with h6 | h6
      · omega
      · have h7 : s = hi := by omega
        subst h7
        rcases B.hi_end with h8 | h8
        · omega
        · exact absurd hnum h8
    refine ⟨⟨h5, hb, by omega, hsh⟩, ?_⟩
    rw [isBlk_cnt h1 (by omega)]
    by_cases hb : bo (s + 1) = true
    · rw [if_pos hb]
      exact .inr ⟨s + 1, by omega, Nat.le_refl _, hb, by omega, fun u h4 h5 => by omega⟩
    · rw [if_neg hb]
      have hb' : bo (s + 1) = false := by simpa using hb
      rcases hL with ⟨rfl, h6⟩ | ⟨t, h6, h7, h8, h9, h10⟩
      · refine .inl ⟨rfl, fun u h4 h5 => ?_⟩
        by_cases hu : u = s + 1
        · rw [hu]; exact hb'
        · exact h6 u h4 (by omega)
      · refine .inr ⟨t, h6, by omega, h8, h9, fun u h4 h5 => ?_⟩
        by_cases hu : u = s + 1
        · rw [hu]; exact hb'
        · exact h10 u h4 (by omega)
  · rintro ch s e b ⟨h1, -⟩ -
    exact h1
  · rintro ch s e b ⟨⟨rfl, h1, h2, h3⟩, hL⟩ hr hst
    have hsh : s = hi := by
      rcases Nat.lt_or_ge s hi with h6 | h6
      · have h7 := B.slide s h2 h6
        rcases hst with h8 | h8
        · omega
        · exact absurd h7 h8
      · omega
    subst hsh
    refine ⟨⟨rfl, h1, h2, h3⟩, hL, fun _ => rfl, fun hb => ?_⟩
    rcases hL with ⟨rfl, -⟩ | ⟨t, h6, h7, h8, rfl, -⟩
    · omega
    · omega
  · rintro ch s e b ⟨⟨rfl, h1, h2, h3⟩, hL, h4, h5⟩ hr hb hlt hs
    rcases hL with ⟨rfl, -⟩ | ⟨t, h6, h7, h8, rfl, h9⟩
    · omega
    · refine ⟨by rw [h1 (s - 1) (by omega), Blk_false]; omega, ⟨by omega, isBlk_up h1 hl hs (by omega), by omega, by omega⟩, .inr ⟨t, h6, h7, h8, rfl, h9⟩, fun hb => by omega, fun _ => by omega⟩
  · rintro ch s e b ⟨⟨rfl, h1, h2, h3⟩, hL, h4, h5⟩ hr hb
    right
    rcases hL with ⟨rfl, h6⟩ | ⟨t, h6, h7, h8, rfl, h9⟩
    · have := h4 rfl
      subst this
      exact ⟨s, ⟨h2, h3, .inr ⟨rfl, h6⟩⟩, h1, Nat.le_refl _⟩
    · have : s = t := by have := h5 (by omega); omega
      subst this
      exact ⟨s, ⟨h2, h3, .inl ⟨h8, h9⟩⟩, h1, Nat.le_refl _⟩

theorem sout_end {bo : Nat → Bool} {n l s0 lo hi : Nat} {ch : Nat → Bool} (hf : s0 + l ≤ n) (hl : 0 < l) (h : SOut bo n l s0 lo hi ch n) : ∃ t, Tgt bo lo hi t ∧ IsBlk n l ch t := by
  rcases h with ⟨h1, -⟩ | ⟨t, h1, h2, -⟩
  · omega
  · exact ⟨t, h1, h2⟩

/-- The place is one. -/
theorem tgt_uniq {bo : Nat → Bool} {lo hi t t' : Nat} (h : Tgt bo lo hi t) (h' : Tgt bo lo hi t') : t = t' := by
  obtain ⟨a1, a2, a3⟩ := h
  obtain ⟨b1, b2, b3⟩ := h'
  rcases a3 with ⟨a3, a4⟩ | ⟨a3, a4⟩ <;> rcases b3 with ⟨b3, b4⟩ | ⟨b3, b4⟩
  · rcases Nat.lt_trichotomy t t' with h | h | h
    · rw [a4 t' h b2] at b3; cases b3
    · exact h
    · rw [b4 t h a2] at a3; cases a3
  · rw [b4 t a1 a2] at a3; cases a3
  · rw [a4 t' b1 b2] at b3; cases b3
  · omega

end Go.Proofs.Qxb6600671a
