/- Strings in Go's order, merging sorted runs, walking two sorted lists. Plain. -/
import GoSem.Op.String
import Derived.Laws.Strings
namespace Go.Proofs.Qxb6600815a

def lt (x y : ByteArray) : Bool := Op.bytesLess x.toList y.toList
/-- Go's 'x <= y', as the walk leaves it. -/
def le (x y : ByteArray) : Bool := Op.bytesLess x.toList y.toList || x.toList == y.toList

theorem bl_irrefl : ∀ x : List UInt8, Op.bytesLess x x = false
  | [] => rfl
  | a :: x => by
    simp only [Op.bytesLess, bl_irrefl x, Bool.and_false, Bool.or_false]
    simp

theorem bl_trans : ∀ x y z : List UInt8, Op.bytesLess x y = true → Op.bytesLess y z = true → Op.bytesLess x z = true
  | _, [], _, h, _ => by simp [Op.bytesLess] at h
  | _, _ :: _, [], _, h => by simp [Op.bytesLess] at h
  | [], _ :: _, _ :: _, _, _ => rfl
  | a :: x, b :: y, c :: z, h1, h2 => by
    simp only [Op.bytesLess, Bool.or_eq_true, decide_eq_true_eq, Bool.and_eq_true, beq_iff_eq] at h1 h2 ⊢
    rcases h1 with h1 | ⟨rfl, h1⟩
    · rcases h2 with h2 | ⟨rfl, h2⟩
      · exact .inl (UInt8.lt_trans h1 h2)
      · exact .inl h1
    · rcases h2 with h2 | ⟨rfl, h2⟩
      · exact .inl h2
      · exact .inr ⟨rfl, bl_trans x y z h1 h2⟩

theorem bl_total : ∀ x y : List UInt8, Op.bytesLess x y = true ∨ x = y ∨ Op.bytesLess y x = true
  | [], [] => .inr (.inl rfl)
  | [], _ :: _ => .inl rfl
  | _ :: _, [] => .inr (.inr rfl)
  | a :: x, b :: y => by
    simp only [Op.bytesLess, Bool.or_eq_true, decide_eq_true_eq, Bool.and_eq_true, beq_iff_eq]
    rcases Nat.lt_trichotomy a.toNat b.toNat with h | h | h
    · exact .inl (.inl (UInt8.lt_iff_toNat_lt.2 h))
    · have : a = b := UInt8.toNat_inj.1 h
      subst this
      rcases bl_total x y with h | h | h
      · exact .inl (.inr ⟨rfl, h⟩)
      · exact .inr (.inl (by rw [h]))
      · exact .inr (.inr (.inr ⟨rfl, h⟩))
    · exact .inr (.inr (.inl (UInt8.lt_iff_toNat_lt.2 h)))

theorem toList_inj {x y : ByteArray} (h : x.toList = y.toList) : x = y := by
  rw [ByteArray.toList_eq, ByteArray.toList_eq] at h
  exact ByteArray.ext (Array.toList_inj.mp h)

theorem le_iff {x y : ByteArray} : le x y = true ↔ lt x y = true ∨ x = y := by
  unfold le lt
  rw [Bool.or_eq_true, beq_iff_eq]
  exact ⟨fun h => h.imp id toList_inj, fun h => h.imp id (fun h => by rw [h])⟩

theorem le_refl (x : ByteArray) : le x x = true := le_iff.2 (.inr rfl)

theorem le_trans {x y z : ByteArray} (h1 : le x y = true) (h2 : le y z = true) : le x z = true := by
  rw [le_iff] at *
  rcases h1 with h1 | rfl
  · rcases h2 with h2 | rfl
    · exact .inl (bl_trans _ _ _ h1 h2)
    · exact .inl h1
  · exact h2

theorem le_total {x y : ByteArray} (h : le x y = false) : le y x = true := by
  rcases bl_total x.toList y.toList with h1 | h1 | h1
  · have : le x y = true := le_iff.2 (.inl h1)
    rw [h] at this; cases this
  · have : le x y = true := le_iff.2 (.inr (toList_inj h1))
    rw [h] at this; cases this
  · exact le_iff.2 (.inl h1)

theorem lt_of_not {x y : ByteArray} (hne : x ≠ y) (h : lt x y = false) : lt y x = true := by
  rcases bl_total x.toList y.toList with h1 | h1 | h1
  · have : lt x y = true := h1
    rw [h] at this; cases this
  · exact absurd (toList_inj h1) hne
  · exact h1

theorem lt_le_ne {x y z : ByteArray} (h1 : lt x y = true) (h2 : le y z = true) : x ≠ z := by
  rintro rfl
  have : lt x x = true := by
    rw [le_iff] at h2
    rcases h2 with h2 | rfl
    · exact bl_trans _ _ _ h1 h2
    · exact h1
  have h3 : lt x x = false := bl_irrefl _
  rw [this] at h3; cases h3

def updS (f : Nat → ByteArray) (k : Nat) (v : ByteArray) : Nat → ByteArray := fun j => if j = k then v else f j
theorem updS_same (f : Nat → ByteArray) (k : Nat) (v : ByteArray) : updS f k v k = v := by simp [updS]
theorem updS_other (f : Nat → ByteArray) {j k : Nat} (v : ByteArray) (h : j ≠ k) : updS f k v j = f j := by simp [updS, h]

/-- f goes up between lo and hi. -/
def Up (f : Nat → ByteArray) (lo hi : Nat) : Prop := ∀ t t', lo ≤ t → t ≤ t' → t' < hi → le (f t) (f t') = true

/-- The two runs a[lo, mid) and a[mid, hi) are merged into b up to k; i and j are the next of each. -/
structure Mrg (a b : Nat → ByteArray) (lo mid hi i j k : Nat) : Prop where
  h1 : lo ≤ i
  h2 : i ≤ mid
  h3 : mid ≤ j
  h4 : j ≤ hi
  h5 : k + mid = i + j
  fro : ∀ t, lo ≤ t → t < k → ∃ u, (lo ≤ u ∧ u < i ∨ mid ≤ u ∧ u < j) ∧ b t = a u
  to : ∀ u, (lo ≤ u ∧ u < i ∨ mid ≤ u ∧ u < j) → ∃ t, lo ≤ t ∧ t < k ∧ b t = a u
  up : Up b lo k
  bd : ∀ t, lo ≤ t → t < k → ∀ u, (i ≤ u ∧ u < mid ∨ j ≤ u ∧ u < hi) → le (b t) (a u) = true

theorem Mrg.start (a b : Nat → ByteArray) {lo mid hi : Nat} (h1 : lo ≤ mid) (h2 : mid ≤ hi) : Mrg a b lo mid hi lo mid lo :=
  ⟨Nat.le_refl _, h1, Nat.le_refl _, h2, by omega, fun t _ _ => by omega, fun u h => by omega, fun t t' _ _ _ => by omega, fun t _ _ => by omega⟩

theorem Mrg.left {a b : Nat → ByteArray} {lo mid hi i j k : Nat} (h : Mrg a b lo mid hi i j k) (ua : Up a lo mid) (ub : Up a mid hi) (hi' : i < mid) (hc : j = hi ∨ le (a i) (a j) = true) :
    Mrg a (updS b k (a i)) lo mid hi (i + 1) j (k + 1) := by
  obtain ⟨h1, h2, h3, h4, h5, fro, to, up, bd⟩ := h
  refine ⟨by omega, by omega, h3, h4, by omega, fun t a1 a2 => ?_, fun u hu => ?_, fun t t' a1 a2 a3 => ?_, fun t a1 a2 u hu => ?_⟩
  · by_cases ht : t = k
    · exact ⟨i, .inl ⟨h1, by omega⟩, by rw [ht, updS_same]⟩
    · obtain ⟨u, b1, b2⟩ := fro t a1 (by omega)
      exact ⟨u, by omega, by rw [updS_other _ _ ht]; exact b2⟩
  · by_cases hui : u = i
    · exact ⟨k, by omega, by omega, by rw [hui, updS_same]⟩
    · obtain ⟨t, b1, b2, b3⟩ := to u (by omega)
      exact ⟨t, b1, by omega, by rw [updS_other _ _ (by omega)]; exact b3⟩
  · by_cases ht' : t' = k
    · rw [ht', updS_same]
      by_cases ht : t = k
      · rw [ht, updS_same]; exact le_refl _
      · rw [updS_other _ _ ht]
        exact bd t a1 (by omega) i (.inl ⟨Nat.le_refl _, hi'⟩)
    · rw [updS_other _ _ ht', updS_other _ _ (by omega)]
      exact up t t' a1 a2 (by omega)
  · by_cases ht : t = k
    · rw [ht, updS_same]
      rcases hu with hu | hu
      · exact ua i u h1 (by omega) hu.2
      · rcases hc with hc | hc
        · omega
        · exact le_trans hc (ub j u h3 hu.1 hu.2)
    · rw [updS_other _ _ ht]
      exact bd t a1 (by omega) u (by omega)

theorem Mrg.right {a b : Nat → ByteArray} {lo mid hi i j k : Nat} (h : Mrg a b lo mid hi i j k) (ua : Up a lo mid) (ub : Up a mid hi) (hj : j < hi) (hc : i = mid ∨ le (a i) (a j) = false) :
    Mrg a (updS b k (a j)) lo mid hi i (j + 1) (k + 1) := by
  obtain ⟨h1, h2, h3, h4, h5, fro, to, up, bd⟩ := h
  refine ⟨h1, h2, by omega, by omega, by omega, fun t a1 a2 => ?_, fun u hu => ?_, fun t t' a1 a2 a3 => ?_, fun t a1 a2 u hu => ?_⟩
  · by_cases ht : t = k
    · exact ⟨j, .inr ⟨h3, by omega⟩, by rw [ht, updS_same]⟩
    · obtain ⟨u, b1, b2⟩ := fro t a1 (by omega)
      exact ⟨u, by omega, by rw [updS_other _ _ ht]; exact b2⟩
  · by_cases huj : u = j
    · exact ⟨k, by omega, by omega, by rw [huj, updS_same]⟩
    · obtain ⟨t, b1, b2, b3⟩ := to u (by omega)
      exact ⟨t, b1, by omega, by rw [updS_other _ _ (by omega)]; exact b3⟩
  · by_cases ht' : t' = k
    · rw [ht', updS_same]
      by_cases ht : t = k
      · rw [ht, updS_same]; exact le_refl _
      · rw [updS_other _ _ ht]
        exact bd t a1 (by omega) j (.inr ⟨Nat.le_refl _, hj⟩)
    · rw [updS_other _ _ ht', updS_other _ _ (by omega)]
      exact up t t' a1 a2 (by omega)
  · by_cases ht : t = k
    · rw [ht, updS_same]
      rcases hu with hu | hu
      · rcases hc with hc | hc
        · omega
        · exact le_trans (le_total hc) (ua i u h1 hu.1 hu.2)
      · exact ub j u h3 (by omega) hu.2
    · rw [updS_other _ _ ht]
      exact bd t a1 (by omega) u (by omega)

/-- The first hi of f and of g hold the same strings. -/
def Same (f g : Nat → ByteArray) (n : Nat) : Prop := (∀ t, t < n → ∃ u, u < n ∧ f t = g u) ∧ (∀ u, u < n → ∃ t, t < n ∧ f t = g u)

theorem Same.refl (f : Nat → ByteArray) (n : Nat) : Same f f n := ⟨fun t h => ⟨t, h, rfl⟩, fun t h => ⟨t, h, rfl⟩⟩

theorem Same.trans {f g h : Nat → ByteArray} {n : Nat} (a : Same f g n) (b : Same g h n) : Same f h n :=
  ⟨fun t ht => by obtain ⟨u, h1, h2⟩ := a.1 t ht; obtain ⟨v, h3, h4⟩ := b.1 u h1; exact ⟨v, h3, h2.trans h4⟩,
   fun v hv => by obtain ⟨u, h1, h2⟩ := b.2 v hv; obtain ⟨t, h3, h4⟩ := a.2 u h1; exact ⟨t, h3, h4.trans h2⟩⟩

/-- Every stretch of w that starts at a multiple of w goes up. -/
def Runs (f : Nat → ByteArray) (n w : Nat) : Prop := ∀ q t t', q * w ≤ t → t ≤ t' → t' < q * w + w → t' < n → le (f t) (f t') = true

theorem Runs.one (f : Nat → ByteArray) (n : Nat) : Runs f n 1 := fun q t t' h1 h2 h3 _ => by rw [show t' = t by omega]; exact le_refl _

theorem Runs.all {f : Nat → ByteArray} {n w : Nat} (h : Runs f n w) (hw : n ≤ w) : Up f 0 n := fun t t' _ h2 h3 => h 0 t t' (by omega) h2 (by omega) h3

/-- One pass: the stretches before q * (2 * w) are merged. -/
structure Pass (a b : Nat → ByteArray) (n w q : Nat) : Prop where
  up : ∀ p t t', p < q → p * (2 * w) ≤ t → t ≤ t' → t' < p * (2 * w) + 2 * w → t' < n → le (b t) (b t') = true
  fro : ∀ t, t < n → t < q * (2 * w) → ∃ u, u < n ∧ b t = a u
  to : ∀ u, u < n → u < q * (2 * w) → ∃ t, t < n ∧ t < q * (2 * w) ∧ b t = a u

theorem Pass.start (a b : Nat → ByteArray) (n w : Nat) : Pass a b n w 0 :=
  ⟨fun p t t' h => by omega, fun t _ h => by omega, fun u _ h => by omega⟩

theorem Pass.step {a b b' : Nat → ByteArray} {n w q mid hi i j : Nat} (h : Pass a b n w q) (_hq : q * (2 * w) < n) (hm : mid = min (q * (2 * w) + w) n) (hh : hi = min (q * (2 * w) + 2 * w) n)
    (M : Mrg a b' (q * (2 * w)) mid hi i j hi) (hb : ∀ t, t < q * (2 * w) → b' t = b t) : Pass a b' n w (q + 1) := by
  obtain ⟨h1, h2, h3, h4, h5, fro, to, up, bd⟩ := M
  have e : (q + 1) * (2 * w) = q * (2 * w) + 2 * w := by rw [Nat.add_mul]; omega
  have hi' : i = mid := by omega
  have hj' : j = hi := by omega
  generalize hX : q * (2 * w) = X at *
  refine ⟨fun p t t' hp a1 a2 a3 a4 => ?_, fun t a1 a2 => ?_, fun u a1 a2 => ?_⟩
  · rcases Nat.lt_or_ge p q with hpq | hpq
    · have hle : (p + 1) * (2 * w) ≤ q * (2 * w) := Nat.mul_le_mul_right _ hpq
      rw [Nat.add_mul, hX] at hle
      rw [hb t (by omega), hb t' (by omega)]
      exact h.up p t t' hpq a1 a2 a3 a4
    · have : p = q := by omega
      subst this
      rw [hX] at a1 a3
      exact up t t' a1 a2 (by omega)
  · rcases Nat.lt_or_ge t X with ht | ht
    · obtain ⟨u, b1, b2⟩ := h.fro t a1 (by rw [hX]; exact ht)
      exact ⟨u, b1, by rw [hb t ht]; exact b2⟩
    · obtain ⟨u, b1, b2⟩ := fro t ht (by omega)
      exact ⟨u, by omega, b2⟩
  · rcases Nat.lt_or_ge u X with hu | hu
    · obtain ⟨t, b1, b2, b3⟩ := h.to u a1 (by rw [hX]; exact hu)
      rw [hX] at b2
      exact ⟨t, b1, by omega, by rw [hb t b2]; exact b3⟩
    · obtain ⟨t, b1, b2, b3⟩ := to u (by omega)
      exact ⟨t, by omega, by omega, b3⟩

theorem Pass.done {a b : Nat → ByteArray} {n w q : Nat} (h : Pass a b n w q) (hq : n ≤ q * (2 * w)) : Runs b n (2 * w) ∧ Same b a n := by
  refine ⟨fun p t t' a1 a2 a3 a4 => ?_, fun t ht => h.fro t ht (by omega), fun u hu => ?_⟩
  · rcases Nat.lt_or_ge p q with hp | hp
    · exact h.up p t t' hp a1 a2 a3 a4
    · have := Nat.mul_le_mul_right (2 * w) hp
      omega
  · obtain ⟨t, b1, -, b3⟩ := h.to u hu (by omega)
    exact ⟨t, b1, b3⟩

/-- The two runs that a pass merges at q. -/
theorem Runs.halves {a : Nat → ByteArray} {n w : Nat} (h : Runs a n w) (q : Nat) {mid hi : Nat} (hm : mid = min (q * (2 * w) + w) n) (hh : hi = min (q * (2 * w) + 2 * w) n) : Up a (q * (2 * w)) mid ∧ Up a mid hi := by
  have e1 : (2 * q) * w = q * (2 * w) := by rw [Nat.mul_comm 2 q, Nat.mul_assoc]
  have e2 : (2 * q + 1) * w = q * (2 * w) + w := by rw [Nat.add_mul, e1]; omega
  generalize q * (2 * w) = X at *
  constructor
  · intro t t' a1 a2 a3
    exact h (2 * q) t t' (by omega) a2 (by omega) (by omega)
  · intro t t' a1 a2 a3
    exact h (2 * q + 1) t t' (by omega) a2 (by omega) (by omega)

/-- They share a string. -/
def Share (f : Nat → ByteArray) (n : Nat) (g : Nat → ByteArray) (m : Nat) : Prop := ∃ i j, i < n ∧ j < m ∧ f i = g j

theorem Share.same {f f' g g' : Nat → ByteArray} {n m : Nat} (a : Same f f' n) (b : Same g g' m) : Share f n g m ↔ Share f' n g' m := by
  constructor
  · rintro ⟨i, j, h1, h2, h3⟩
    obtain ⟨i', x1, x2⟩ := a.1 i h1
    obtain ⟨j', y1, y2⟩ := b.1 j h2
    exact ⟨i', j', x1, y1, by rw [← x2, ← y2]; exact h3⟩
  · rintro ⟨i, j, h1, h2, h3⟩
    obtain ⟨i', x1, x2⟩ := a.2 i h1
    obtain ⟨j', y1, y2⟩ := b.2 j h2
    exact ⟨i', j', x1, y1, by rw [x2, y2]; exact h3⟩

/-- Nothing before i, j is shared. -/
def NoShare (f : Nat → ByteArray) (n : Nat) (g : Nat → ByteArray) (m i j : Nat) : Prop :=
  (∀ a b, a < i → a < n → b < m → f a ≠ g b) ∧ (∀ a b, b < j → a < n → b < m → f a ≠ g b)

theorem NoShare.left {f g : Nat → ByteArray} {n m i j : Nat} (h : NoShare f n g m i j) (ug : Up g 0 m) (hl : lt (f i) (g j) = true) : NoShare f n g m (i + 1) j := by
  refine ⟨fun a b h1 h2 h3 => ?_, h.2⟩
  by_cases ha : a = i
  · subst ha
    rcases Nat.lt_or_ge b j with hb | hb
    · exact h.2 a b hb h2 h3
    · exact lt_le_ne hl (ug j b (by omega) hb h3)
  · exact h.1 a b (by omega) h2 h3

theorem NoShare.right {f g : Nat → ByteArray} {n m i j : Nat} (h : NoShare f n g m i j) (uf : Up f 0 n) (hne : f i ≠ g j) (hl : lt (f i) (g j) = false) : NoShare f n g m i (j + 1) := by
  refine ⟨h.1, fun a b h1 h2 h3 => ?_⟩
  by_cases hb : b = j
  · subst hb
    rcases Nat.lt_or_ge a i with ha | ha
    · exact h.1 a b ha h2 h3
    · exact Ne.symm (lt_le_ne (lt_of_not hne hl) (uf i a (by omega) ha h2))
  · exact h.2 a b (by omega) h2 h3

theorem NoShare.done {f g : Nat → ByteArray} {n m i j : Nat} (h : NoShare f n g m i j) (he : n ≤ i ∨ m ≤ j) : ¬ Share f n g m := by
  rintro ⟨a, b, h1, h2, h3⟩
  rcases he with he | he
  · exact h.1 a b (by omega) h1 h2 h3
  · exact h.2 a b (by omega) h1 h2 h3

end Go.Proofs.Qxb6600815a
