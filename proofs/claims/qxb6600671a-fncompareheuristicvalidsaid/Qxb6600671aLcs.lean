/- Longest common subsequences, plain: by the table, by sublists, and from the other end. No program. -/
namespace Go.Proofs.Qxb6600671a

/-- One row of the table out of the row before. -/
def lcsRow (u : Int) (g : Nat → Int) (prev : Nat → Nat) : Nat → Nat
  | 0 => 0
  | j + 1 => if u = g j then prev j + 1 else max (prev (j + 1)) (lcsRow u g prev j)

/-- The length of a longest common subsequence of f 0 .. f (i-1) and g 0 .. g (j-1). -/
def lcs (f g : Nat → Int) : Nat → Nat → Nat
  | 0 => fun _ => 0
  | i + 1 => lcsRow (f i) g (lcs f g i)

theorem lcs_zero_left (f g : Nat → Int) (j : Nat) : lcs f g 0 j = 0 := rfl
theorem lcs_zero_right (f g : Nat → Int) (i : Nat) : lcs f g i 0 = 0 := by cases i <;> rfl
theorem lcs_succ (f g : Nat → Int) (i j : Nat) : lcs f g (i + 1) (j + 1) = if f i = g j then lcs f g i j + 1 else max (lcs f g i (j + 1)) (lcs f g (i + 1) j) := rfl

/-- f (i-1), .., f 0. -/
def rseg (f : Nat → Int) : Nat → List Int
  | 0 => []
  | i + 1 => f i :: rseg f i

theorem rseg_length (f : Nat → Int) (i : Nat) : (rseg f i).length = i := by
  induction i with
  | zero => rfl
  | succ i ih => simp [rseg, ih]

theorem rseg_congr {f g : Nat → Int} {i : Nat} (h : ∀ j, j < i → f j = g j) : rseg f i = rseg g i := by
  induction i with
  | zero => rfl
  | succ i ih => simp only [rseg]; rw [h i (by omega), ih (fun j hj => h j (by omega))]

theorem sublist_tail {x a : Int} {r l : List Int} (h : List.Sublist (x :: r) (a :: l)) : List.Sublist r l := by
  rcases List.sublist_cons_iff.1 h with h | ⟨r', he, h⟩
  · exact (List.sublist_cons_self x r).trans h
  · cases he; exact h

theorem lcs_max (f g : Nat → Int) (i : Nat) : ∀ (j : Nat) (L : List Int), List.Sublist L (rseg f i) → List.Sublist L (rseg g j) → L.length ≤ lcs f g i j := by
  induction i with
  | zero =>
    intro j L h1 _
    simp only [rseg, List.sublist_nil] at h1
    subst h1; simp
  | succ i ih =>
    intro j
    induction j with
    | zero =>
      intro L _ h2
      simp only [rseg, List.sublist_nil] at h2
      subst h2; simp
    | succ j jh =>
      intro L h1 h2
      rw [lcs_succ]
      by_cases he : f i = g j
      · rw [if_pos he]
        cases L with
        | nil => simp
        | cons x r =>
          have := ih j r (sublist_tail h1) (sublist_tail h2)
          simp only [List.length_cons]; omega
      · rw [if_neg he]
        simp only [rseg] at h1
        rcases List.sublist_cons_iff.1 h1 with h3 | ⟨r, rfl, h3⟩
        · have := ih (j + 1) L h3 h2; omega
        · simp only [rseg] at h2
          rcases List.sublist_cons_iff.1 h2 with h4 | ⟨r', he', h4⟩
          · have := jh _ (by simp only [rseg]; exact h1) h4; omega
          · simp only [List.cons.injEq] at he'; exact absurd he'.1 he

theorem lcs_sub (f g : Nat → Int) (i : Nat) : ∀ j : Nat, ∃ L : List Int, List.Sublist L (rseg f i) ∧ List.Sublist L (rseg g j) ∧ L.length = lcs f g i j := by
  induction i with
  | zero => intro j; exact ⟨[], List.nil_sublist _, List.nil_sublist _, rfl⟩
  | succ i ih =>
    intro j
    induction j with
    | zero => exact ⟨[], List.nil_sublist _, List.nil_sublist _, rfl⟩
    | succ j jh =>
      rw [lcs_succ]
      by_cases he : f i = g j
      · rw [if_pos he]
        obtain ⟨L, h1, h2, h3⟩ := ih j
        exact ⟨f i :: L, h1.cons_cons _, by simp only [rseg]; rw [he]; exact h2.cons_cons _, by simp [h3]⟩
      · rw [if_neg he]
        by_cases hm : lcs f g i (j + 1) ≤ lcs f g (i + 1) j
        · obtain ⟨L, h1, h2, h3⟩ := jh
          exact ⟨L, h1, h2.cons _, by omega⟩
        · obtain ⟨L, h1, h2, h3⟩ := ih (j + 1)
          exact ⟨L, h1.cons _, h2, by omega⟩

theorem lcs_le_left (f g : Nat → Int) (i j : Nat) : lcs f g i j ≤ i := by
  obtain ⟨L, h1, _, h3⟩ := lcs_sub f g i j
  have := h1.length_le
  rw [rseg_length] at this; omega

theorem lcs_le_right (f g : Nat → Int) (i j : Nat) : lcs f g i j ≤ j := by
  obtain ⟨L, _, h2, h3⟩ := lcs_sub f g i j
  have := h2.length_le
  rw [rseg_length] at this; omega

theorem lcs_mono_left (f g : Nat → Int) (i j : Nat) : lcs f g i j ≤ lcs f g (i + 1) j := by
  obtain ⟨L, h1, h2, h3⟩ := lcs_sub f g i j
  rw [← h3]; exact lcs_max f g (i + 1) j L (h1.cons _) h2

theorem lcs_mono_right (f g : Nat → Int) (i j : Nat) : lcs f g i j ≤ lcs f g i (j + 1) := by
  obtain ⟨L, h1, h2, h3⟩ := lcs_sub f g i j
  rw [← h3]; exact lcs_max f g i (j + 1) L h1 (h2.cons _)

theorem lcs_diag (f g : Nat → Int) (i j : Nat) : lcs f g (i + 1) (j + 1) ≤ lcs f g i j + 1 := by
  obtain ⟨L, h1, h2, h3⟩ := lcs_sub f g (i + 1) (j + 1)
  rw [← h3]
  cases L with
  | nil => simp
  | cons x r =>
    have := lcs_max f g i j r (sublist_tail h1) (sublist_tail h2)
    simp only [List.length_cons]; omega

theorem lcs_congr {f f' g g' : Nat → Int} {i j : Nat} (hf : ∀ k, k < i → f k = f' k) (hg : ∀ k, k < j → g k = g' k) : lcs f g i j = lcs f' g' i j := by
  apply Nat.le_antisymm
  · obtain ⟨L, h1, h2, h3⟩ := lcs_sub f g i j
    rw [← h3]; exact lcs_max f' g' i j L (rseg_congr hf ▸ h1) (rseg_congr hg ▸ h2)
  · obtain ⟨L, h1, h2, h3⟩ := lcs_sub f' g' i j
    rw [← h3]; exact lcs_max f g i j L (rseg_congr hf ▸ h1) (rseg_congr hg ▸ h2)

/-- The first n read from their end. -/
def rev (n : Nat) (f : Nat → Int) : Nat → Int := fun k => f (n - 1 - k)

theorem rseg_split (f : Nat → Int) (n : Nat) : ∀ x, x ≤ n → rseg f n = (rseg (rev n f) (n - x)).reverse ++ rseg f x := by
  have key : ∀ d x, x + d = n → rseg f n = (rseg (rev n f) d).reverse ++ rseg f x := by
    intro d
    induction d with
    | zero => intro x hx; simp only [Nat.add_zero] at hx; subst hx; simp [rseg]
    | succ d ih =>
      intro x hx
      rw [ih (x + 1) (by omega)]
      simp only [rseg, List.reverse_cons, List.append_assoc, List.cons_append, List.nil_append]
      have : rev n f d = f x := by unfold rev; congr 1; omega
      rw [this]
  intro x hx
  exact key (n - x) x (by omega)

/-- A longest one of a part and a longest one of the rest make a common one of the whole. -/
theorem lcs_cat (f g : Nat → Int) {n m x y : Nat} (hx : x ≤ n) (hy : y ≤ m) : lcs f g x y + lcs (rev n f) (rev m g) (n - x) (m - y) ≤ lcs f g n m := by
  obtain ⟨L1, a1, a2, a3⟩ := lcs_sub f g x y
  obtain ⟨L2, b1, b2, b3⟩ := lcs_sub (rev n f) (rev m g) (n - x) (m - y)
  have h1 : List.Sublist (L2.reverse ++ L1) (rseg f n) := by rw [rseg_split f n x hx]; exact b1.reverse.append a1
  have h2 : List.Sublist (L2.reverse ++ L1) (rseg g m) := by rw [rseg_split g m y hy]; exact b2.reverse.append a2
  have := lcs_max f g n m _ h1 h2
  simp at this
  omega

theorem rev_rev (n : Nat) (f : Nat → Int) {k : Nat} (hk : k < n) : rev n (rev n f) k = f k := by unfold rev; congr 1; omega

/-- From the other end it is as long. -/
theorem lcs_rev (f g : Nat → Int) (n m : Nat) : lcs (rev n f) (rev m g) n m = lcs f g n m := by
  have key : ∀ f g : Nat → Int, lcs (rev n f) (rev m g) n m ≤ lcs f g n m := by
    intro f g
    have := lcs_cat f g (Nat.zero_le n) (Nat.zero_le m)
    simp only [lcs_zero_left, Nat.sub_zero] at this
    omega
  refine Nat.le_antisymm (key f g) ?_
  have h := key (rev n f) (rev m g)
  rw [lcs_congr (fun k hk => rev_rev n f hk) (fun k hk => rev_rev m g hk)] at h
  exact h

/-- The rest of a part, read from the front. -/
theorem lcs_rest (f g : Nat → Int) {n m x y : Nat} (_hx : x ≤ n) (_hy : y ≤ m) : lcs (rev n f) (rev m g) (n - x) (m - y) = lcs (fun k => f (x + k)) (fun k => g (y + k)) (n - x) (m - y) := by
  rw [← lcs_rev (fun k => f (x + k)) (fun k => g (y + k)) (n - x) (m - y)]
  refine lcs_congr (fun k hk => ?_) (fun k hk => ?_)
  · unfold rev; congr 1; omega
  · unfold rev; congr 1; omega

end Go.Proofs.Qxb6600671a
