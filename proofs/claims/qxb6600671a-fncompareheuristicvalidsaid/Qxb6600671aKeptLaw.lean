/- 'compare', plain: the lines that two markings keep, and how a script is put together out of parts. No program. -/
import Derived.Test.Qxb6600671aSplitLaw
namespace Go.Proofs.Qxb6600671a

/-- Of the n lines from lo on, those that are not marked. -/
def kept (a : Nat → Int) (d : Nat → Bool) : Nat → Nat → List Int
  | _, 0 => []
  | lo, n + 1 => if d lo then kept a d (lo + 1) n else a lo :: kept a d (lo + 1) n

theorem kept_append (a : Nat → Int) (d : Nat → Bool) (x y : Nat) : ∀ lo, kept a d lo (x + y) = kept a d lo x ++ kept a d (lo + x) y := by
  induction x with
  | zero => intro lo; simp [kept]
  | succ x ih =>
    intro lo
    rw [show x + 1 + y = (x + y) + 1 by omega]
    simp only [kept]
    rw [ih (lo + 1), show lo + 1 + x = lo + (x + 1) by omega]
    split <;> simp

theorem kept_congr {a : Nat → Int} {d d' : Nat → Bool} (n : Nat) : ∀ lo, (∀ i, lo ≤ i → i < lo + n → d i = d' i) → kept a d lo n = kept a d' lo n := by
  induction n with
  | zero => intro lo _; rfl
  | succ n ih =>
    intro lo h
    simp only [kept]
    rw [h lo (Nat.le_refl _) (by omega), ih (lo + 1) (fun i h1 h2 => h i (by omega) (by omega))]

theorem kept_all {a : Nat → Int} {d : Nat → Bool} (n : Nat) : ∀ lo, (∀ i, lo ≤ i → i < lo + n → d i = true) → kept a d lo n = [] := by
  induction n with
  | zero => intro lo _; rfl
  | succ n ih =>
    intro lo h
    simp only [kept]
    rw [h lo (Nat.le_refl _) (by omega), if_pos rfl]
    exact ih (lo + 1) (fun i h1 h2 => h i (by omega) (by omega))

theorem kept_one {a : Nat → Int} {d : Nat → Bool} {lo : Nat} (h : d lo = false) : kept a d lo 1 = [a lo] := by simp [kept, h]

/-- Kept and marked lines are all the lines. -/
theorem kept_count (a : Nat → Int) (d : Nat → Bool) (f : Nat → Nat) (n : Nat) (h0 : f 0 = 0) (hf : ∀ k, f (k + 1) = f k + (if d k then 1 else 0)) : (kept a d 0 n).length + f n = n := by
  induction n with
  | zero => simp [kept, h0]
  | succ n ih =>
    rw [kept_append, Nat.zero_add, List.length_append, hf n]
    have : (kept a d n 1).length = if d n then 0 else 1 := by simp only [kept]; split <;> simp
    rw [this]
    split <;> omega

/-- The kept lines are a part of the lines, in their order. -/
theorem kept_sub (a : Nat → Int) (d : Nat → Bool) (n : Nat) : List.Sublist (kept a d 0 n).reverse (rseg a n) := by
  induction n with
  | zero => simp [kept, rseg]
  | succ n ih =>
    rw [kept_append, Nat.zero_add, List.reverse_append]
    simp only [rseg, kept]
    split
    · simpa using ih.cons _
    · simpa using ih

/-- A longest common subsequence of two parts. -/
def Lx (a b : Nat → Int) (alo n blo m : Nat) : Nat := lcs (fun i => a (alo + i)) (fun j => b (blo + j)) n m

theorem Lx_last {a b : Nat → Int} {alo n blo m : Nat} (h : a (alo + n) = b (blo + m)) : Lx a b alo (n + 1) blo (m + 1) = Lx a b alo n blo m + 1 := by
  unfold Lx
  rw [lcs_succ, if_pos h]

theorem Lx_head {a b : Nat → Int} {alo n blo m : Nat} (h : a alo = b blo) : Lx a b alo (n + 1) blo (m + 1) = Lx a b (alo + 1) n (blo + 1) m + 1 := by
  unfold Lx
  rw [← lcs_rev, lcs_succ, if_pos]
  · have e := lcs_rest (fun i => a (alo + i)) (fun j => b (blo + j)) (n := n + 1) (m := m + 1) (x := 1) (y := 1) (by omega) (by omega)
    simp only [Nat.add_sub_cancel] at e
    rw [e]
    congr 2
    · funext k; congr 1; omega
    · funext k; congr 1; omega
  · unfold rev
    simpa using h

theorem Lx_zero_left (a b : Nat → Int) (alo blo m : Nat) : Lx a b alo 0 blo m = 0 := rfl
theorem Lx_zero_right (a b : Nat → Int) (alo n blo : Nat) : Lx a b alo n blo 0 = 0 := lcs_zero_right _ _ _

/-- The marks on a part are a script; where 'opt', a shortest one. -/
def Good (a b : Nat → Int) (d i : Nat → Bool) (opt : Prop) (alo ahi blo bhi : Nat) : Prop :=
  kept a d alo (ahi - alo) = kept b i blo (bhi - blo) ∧ (opt → (kept a d alo (ahi - alo)).length = Lx a b alo (ahi - alo) blo (bhi - blo))

theorem Good.head {a b : Nat → Int} {d i : Nat → Bool} {opt : Prop} {alo ahi blo bhi : Nat} (h1 : alo < ahi) (h2 : blo < bhi) (he : a alo = b blo) (hd : d alo = false) (hi : i blo = false)
    (h : Good a b d i opt (alo + 1) ahi (blo + 1) bhi) : Good a b d i opt alo ahi blo bhi := by
  obtain ⟨g1, g2⟩ := h
  obtain ⟨n, hn⟩ : ∃ n, ahi - alo = n + 1 := ⟨ahi - alo - 1, by omega⟩
  obtain ⟨m, hm⟩ : ∃ m, bhi - blo = m + 1 := ⟨bhi - blo - 1, by omega⟩
  rw [show ahi - (alo + 1) = n by omega, show bhi - (blo + 1) = m by omega] at g1 g2
  unfold Good
  rw [hn, hm]
  simp only [kept, hd, hi, Bool.false_eq_true, if_false]
  exact ⟨by rw [he, g1], fun ho => by rw [Lx_head he, List.length_cons, g2 ho]⟩

theorem Good.last {a b : Nat → Int} {d i : Nat → Bool} {opt : Prop} {alo ahi blo bhi : Nat} (h1 : alo < ahi) (h2 : blo < bhi) (he : a (ahi - 1) = b (bhi - 1)) (hd : d (ahi - 1) = false) (hi : i (bhi - 1) = false)
    (h : Good a b d i opt alo (ahi - 1) blo (bhi - 1)) : Good a b d i opt alo ahi blo bhi := by
  obtain ⟨g1, g2⟩ := h
  obtain ⟨n, hn⟩ : ∃ n, ahi - alo = n + 1 := ⟨ahi - alo - 1, by omega⟩
  obtain ⟨m, hm⟩ : ∃ m, bhi - blo = m + 1 := ⟨bhi - blo - 1, by omega⟩
  rw [show ahi - 1 - alo = n by omega, show bhi - 1 - blo = m by omega] at g1 g2
  unfold Good
  rw [hn, hm, kept_append, kept_append, show alo + n = ahi - 1 by omega, show blo + m = bhi - 1 by omega, kept_one hd, kept_one hi]
  exact ⟨by rw [g1, he], fun ho => by rw [Lx_last (by rw [show alo + n = ahi - 1 by omega, show blo + m = bhi - 1 by omega]; exact he), List.length_append, g2 ho]; rfl⟩

theorem Good.insAll {a b : Nat → Int} {d i : Nat → Bool} {opt : Prop} {alo blo bhi : Nat} (h : ∀ j, blo ≤ j → j < bhi → i j = true) : Good a b d i opt alo alo blo bhi := by
  unfold Good
  rw [Nat.sub_self, kept_all (bhi - blo) blo (fun j h1 h2 => h j h1 (by omega))]
  exact ⟨rfl, fun _ => rfl⟩

theorem Good.delAll {a b : Nat → Int} {d i : Nat → Bool} {opt : Prop} {alo ahi blo : Nat} (h : ∀ j, alo ≤ j → j < ahi → d j = true) : Good a b d i opt alo ahi blo blo := by
  unfold Good
  rw [Nat.sub_self, kept_all (ahi - alo) alo (fun j h1 h2 => h j h1 (by omega)), Lx_zero_right]
  exact ⟨rfl, fun _ => rfl⟩

theorem Good.congr {a b : Nat → Int} {d d' i i' : Nat → Bool} {opt : Prop} {alo ahi blo bhi : Nat} (h : Good a b d i opt alo ahi blo bhi) (hd : ∀ j, alo ≤ j → j < ahi → d j = d' j) (hi : ∀ j, blo ≤ j → j < bhi → i j = i' j) :
    Good a b d' i' opt alo ahi blo bhi := by
  unfold Good at h ⊢
  rw [← kept_congr (a := a) (ahi - alo) alo (fun j h1 h2 => hd j h1 (by omega)), ← kept_congr (a := b) (bhi - blo) blo (fun j h1 h2 => hi j h1 (by omega))]
  exact h

theorem Good.cat {a b : Nat → Int} {d i : Nat → Bool} {opt : Prop} {alo ahi blo bhi x y : Nat} (h1 : alo ≤ x) (h2 : x ≤ ahi) (h3 : blo ≤ y) (h4 : y ≤ bhi) (g1 : Good a b d i opt alo x blo y) (g2 : Good a b d i opt x ahi y bhi)
    (hL : opt → Lx a b alo (x - alo) blo (y - blo) + Lx a b x (ahi - x) y (bhi - y) = Lx a b alo (ahi - alo) blo (bhi - blo)) : Good a b d i opt alo ahi blo bhi := by
  obtain ⟨p1, p2⟩ := g1
  obtain ⟨q1, q2⟩ := g2
  have e1 : kept a d alo (ahi - alo) = kept a d alo (x - alo) ++ kept a d x (ahi - x) := by
    rw [show ahi - alo = (x - alo) + (ahi - x) by omega, kept_append, show alo + (x - alo) = x by omega]
  have e2 : kept b i blo (bhi - blo) = kept b i blo (y - blo) ++ kept b i y (bhi - y) := by
    rw [show bhi - blo = (y - blo) + (bhi - y) by omega, kept_append, show blo + (y - blo) = y by omega]
  unfold Good
  rw [e1, e2]
  exact ⟨by rw [p1, q1], fun ho => by rw [List.length_append, p2 ho, q2 ho, hL ho]⟩

/-- A point on a shortest script parts the longest common subsequence. -/
theorem opt_Lx {a b : Nat → Int} {alo ahi blo bhi : Nat} {x y : Nat} (hx : x ≤ ahi - alo) (hy : y ≤ bhi - blo) (h : Opt (fun i => a (alo + i)) (fun j => b (blo + j)) (ahi - alo) (bhi - blo) x y) :
    Lx a b alo x blo y + Lx a b (alo + x) (ahi - alo - x) (blo + y) (bhi - blo - y) = Lx a b alo (ahi - alo) blo (bhi - blo) := by
  unfold Opt Dd Ee at h
  simp only [Int.toNat_natCast] at h
  rw [lcs_rest _ _ hx hy] at h
  unfold Lx
  simp only [← Nat.add_assoc] at h
  omega

end Go.Proofs.Qxb6600671a
