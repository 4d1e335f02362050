/- certify, plainly: loads, cuts and shares; what the law asks of them. No program. -/
import Derived.Test.Qxb6601548aFloatLaw
import Derived.Test.Qxb6601548aMem
namespace Go.Proofs.Qxb6601548a
open Ieee

/-- The word of 1 - 1e-9. -/
def CC : Nat := 4607182418791010209

def addw (x y : Nat) : Nat := (double.add x y).getD 0
def mulw (x y : Nat) : Nat := (double.mul x y).getD 0
def divw (x y : Nat) : Nat := (double.div x y).getD 0

theorem addw_eq {x y : Nat} (hx : x ≤ INF) (hy : y ≤ INF) : double.add x y = some (addw x y) ∧ addw x y ≤ INF := by
  obtain ⟨z, h1, h2⟩ := add_nn hx hy
  simp [addw, h1, h2]
theorem mulw_fin {x y : Nat} (hx : x < INF) (hy : y < INF) : double.mul x y = some (mulw x y) ∧ mulw x y ≤ INF ∧ (y = 0 → mulw x y = 0) := by
  obtain ⟨z, h1, h2, h3⟩ := mul_fin hx hy
  refine ⟨by simp [mulw, h1], by simp [mulw, h1, h2], fun h => by simp [mulw, h1, h3 h]⟩
theorem mulw_CC {x : Nat} (hx : x ≤ INF) : double.mul x CC = some (mulw x CC) ∧ mulw x CC ≤ INF := by
  obtain ⟨z, h1, h2⟩ := mul_nn (y := CC) hx (by decide) (by decide)
  simp [mulw, h1, h2]
theorem mulw_one : mulw ONE CC = CC := by decide
theorem mulw_zero : mulw 0 CC = 0 := by decide
theorem fmin_CC : fmin CC CC = CC := by decide
theorem divw_nn {x y : Nat} (hx : x < INF) (hy : y ≤ INF) (hy0 : y ≠ 0) : double.div x y = some (divw x y) ∧ divw x y ≤ INF ∧ (x = 0 → divw x y = 0) := by
  obtain ⟨z, h1, h2, h3⟩ := div_nn hx hy hy0
  refine ⟨by simp [divw, h1], by simp [divw, h1, h2], fun h => by simp [divw, h1, h3 h]⟩
theorem divw_one {x y : Nat} (hx : x < INF) (hy : y ≤ INF) (hy0 : y ≠ 0) (ho : double.order y x ≠ some .gt) : ONE ≤ divw x y := by
  obtain ⟨z, h1, h2, h3⟩ := div_one_le hx hy hy0 ho
  simp [divw, h1, h2]

/-- A word of at least 1 that stands for a number lies below infinity. -/
theorem ge_one_fin {v : Nat} (hv : v < 18446744073709551616) (hf : Fin v) (hp : double.order v ONE = some .gt ∨ double.order v ONE = some .eq) : v < INF := by
  have rone : double.read ONE = .number false 4503599627370496 (-52) := by decide
  obtain ⟨s, m, i, hr⟩ := hf
  have hs : s = false := by
    cases s
    · rfl
    · exfalso
      unfold Format.order at hp
      rw [rone, hr] at hp
      simp only [Datum.order, signed, if_true, Bool.false_eq_true, if_false] at hp
      have h1 : 0 < 4503599627370496 <<< ((-52) - min i (-52)).toNat := shl_pos (by decide)
      generalize m <<< (i - min i (-52)).toNat = a at hp
      generalize 4503599627370496 <<< ((-52) - min i (-52)).toNat = b at hp h1
      rcases hp with hp | hp <;> injection hp with hp
      · rw [Int.compare_eq_gt] at hp; omega
      · rw [Int.compare_eq_eq] at hp; omega
  subst hs
  clear hp
  unfold Format.read at hr
  simp only [sw, bin, infr, lp] at hr
  unfold INF at *
  split at hr
  · injection hr with h1 h2 h3
    have : v / 9223372036854775808 % 2 = 0 := by
      have := Nat.mod_two_eq_zero_or_one (v / 9223372036854775808)
      simp at h1
      omega
    omega
  · split at hr
    · injection hr with h1 h2 h3
      have : v / 9223372036854775808 % 2 = 0 := by
        have := Nat.mod_two_eq_zero_or_one (v / 9223372036854775808)
        simp at h1
        omega
      omega
    · split at hr <;> cases hr

/-- What comes in. -/
structure Cin where
  e : Nat
  n : Nat
  ml : Nat
  wl : Nat
  vl : Nat
  wt : Nat → Nat
  fx : Nat → Int
  mem : Nat → Int
  en : Nat → Int
  wh : Nat → Int
  val : Nat → Nat

/-- Where set s ends, where it starts, the element at place j. -/
def Cin.E (I : Cin) (s : Nat) : Nat := (I.en s).toNat
def Cin.st (I : Cin) (s : Nat) : Nat := if s = 0 then 0 else I.E (s - 1)
def Cin.M (I : Cin) (j : Nat) : Nat := (I.mem j).toNat

theorem Cin.st_zero (I : Cin) : I.st 0 = 0 := rfl
theorem Cin.st_succ (I : Cin) (s : Nat) : I.st (s + 1) = I.E s := rfl

/-- certifyFits. -/
structure Cin.Fits (I : Cin) : Prop where
  wt : ∀ i, i < I.e → I.wt i < INF
  fx : ∀ i, i < I.e → 0 ≤ I.fx i ∧ I.fx i ≤ 2
  en : ∀ s, s < I.n → I.en s = (I.E s : Int)
  le : ∀ s, s < I.n → I.st s ≤ I.E s
  ml : ∀ s, s < I.n → I.E s ≤ I.ml
  mem : ∀ s j, s < I.n → j < I.E s → I.mem j = (I.M j : Int) ∧ I.M j < I.e
  wl : I.e + I.n ≤ I.wl
  wh : ∀ s, s < I.n → 0 ≤ I.wh (I.e + s) → (I.wh (I.e + s)).toNat < I.vl
  val : ∀ s, s < I.n → 0 ≤ I.wh (I.e + s) → Fin (I.val (I.wh (I.e + s)).toNat) ∧ I.val (I.wh (I.e + s)).toNat < 18446744073709551616

/-- The share of set s before any cut. -/
def Cin.orig (I : Cin) (s : Nat) : Nat :=
  if 0 ≤ I.wh (I.e + s) then (if double.order (I.val (I.wh (I.e + s)).toNat) 0 = some .gt then I.val (I.wh (I.e + s)).toNat else 0) else 0

theorem Cin.Fits.orig {I : Cin} (F : I.Fits) {s : Nat} (hs : s < I.n) : I.orig s < INF := by
  unfold Cin.orig
  split
  · next h =>
    split
    · next h2 => exact pos_fin (F.val s hs h).2 (F.val s hs h).1 h2
    · decide
  · decide

/-- x is added at the places a, a + 1, .. (k of them) of M. -/
def addRun (x : Nat) (M : Nat → Nat) (a : Nat) : Nat → (Nat → Nat) → (Nat → Nat)
  | 0, L => L
  | k + 1, L => upd (addRun x M a k L) (M (a + k)) (addw (addRun x M a k L (M (a + k))) x)

/-- The load behind the first s sets. -/
def Cin.load (I : Cin) : Nat → (Nat → Nat)
  | 0 => fun _ => 0
  | s + 1 => addRun (I.orig s) I.M (I.st s) (I.E s - I.st s) (I.load s)

/-- The load, in the midst of set s. -/
def Cin.loadAt (I : Cin) (s k : Nat) : Nat → Nat := addRun (I.orig s) I.M (I.st s) k (I.load s)

theorem addRun_nn {x : Nat} (hx : x ≤ INF) (M : Nat → Nat) (a k : Nat) {L : Nat → Nat} (hL : ∀ m, L m ≤ INF) : ∀ m, addRun x M a k L m ≤ INF := by
  induction k with
  | zero => exact hL
  | succ k ih =>
    intro m
    unfold addRun
    unfold upd
    split
    · exact (addw_eq (ih _) hx).2
    · exact ih m

theorem Cin.Fits.load {I : Cin} (F : I.Fits) {s : Nat} (hs : s ≤ I.n) : ∀ m, I.load s m ≤ INF := by
  induction s with
  | zero => intro m; exact Nat.zero_le _
  | succ s ih =>
    unfold Cin.load
    exact addRun_nn (Nat.le_of_lt (F.orig (by omega))) _ _ _ (ih (by omega))

theorem Cin.Fits.loadAt {I : Cin} (F : I.Fits) {s : Nat} (hs : s < I.n) (k : Nat) : ∀ m, I.loadAt s k m ≤ INF :=
  addRun_nn (Nat.le_of_lt (F.orig hs)) _ _ _ (F.load (by omega))

theorem Cin.loadAt_zero (I : Cin) (s : Nat) : I.loadAt s 0 = I.load s := rfl
theorem Cin.loadAt_succ (I : Cin) (s k : Nat) : I.loadAt s (k + 1) = upd (I.loadAt s k) (I.M (I.st s + k)) (addw (I.loadAt s k (I.M (I.st s + k))) (I.orig s)) := rfl
theorem Cin.loadAt_end (I : Cin) (s : Nat) : I.loadAt s (I.E s - I.st s) = I.load (s + 1) := rfl

/-- The capacity of element m. -/
def Cin.limit (I : Cin) (m : Nat) : Nat := if I.fx m = 1 then 0 else I.wt m

theorem Cin.Fits.limit {I : Cin} (F : I.Fits) {m : Nat} (hm : m < I.e) : I.limit m < INF := by
  unfold Cin.limit
  split
  · decide
  · exact F.wt m hm

/-- The cut of element m. -/
def Cin.cut (I : Cin) (m : Nat) : Nat := if I.fx m = 2 ∨ I.load I.n m = 0 then ONE else fmin ONE (divw (I.limit m) (I.load I.n m))

theorem Cin.Fits.cut {I : Cin} (F : I.Fits) {m : Nat} (hm : m < I.e) : I.cut m ≤ INF := by
  unfold Cin.cut
  split
  · decide
  · next h =>
    exact Nat.le_of_lt (fmin_fin (by decide) (divw_nn (F.limit hm) (F.load (Nat.le_refl _) m) (fun h' => h (.inr h'))).2.1)

/-- The least cut of a set, in the midst. -/
def Cin.cRun (I : Cin) (s : Nat) : Nat → Nat
  | 0 => CC
  | k + 1 => fmin (I.cRun s k) (mulw (I.cut (I.M (I.st s + k))) CC)

theorem Cin.Fits.cRun {I : Cin} (F : I.Fits) {s : Nat} (hs : s < I.n) {k : Nat} (hk : k ≤ I.E s - I.st s) : I.cRun s k < INF := by
  induction k with
  | zero => show CC < INF; decide
  | succ k ih =>
    exact fmin_fin (ih (by omega)) (mulw_CC (F.cut (F.mem s _ hs (by omega)).2)).2

/-- The share of set s. -/
def Cin.share (I : Cin) (s : Nat) : Nat := mulw (I.orig s) (I.cRun s (I.E s - I.st s))

theorem Cin.Fits.share {I : Cin} (F : I.Fits) {s : Nat} (hs : s < I.n) : double.mul (I.orig s) (I.cRun s (I.E s - I.st s)) = some (I.share s) ∧ I.share s ≤ INF :=
  ⟨(mulw_fin (F.orig hs) (F.cRun hs (Nat.le_refl _))).1, (mulw_fin (F.orig hs) (F.cRun hs (Nat.le_refl _))).2.1⟩

/-- Element m is overfull; it is taken and loaded. -/
def Cin.Over (I : Cin) (m : Nat) : Prop := I.fx m ≠ 2 ∧ double.order (I.load I.n m) (I.limit m) = some .gt
def Cin.Loaded (I : Cin) (m : Nat) : Prop := I.fx m = 1 ∧ I.load I.n m ≠ 0

theorem Cin.Fits.cut_one {I : Cin} (F : I.Fits) {m : Nat} (hm : m < I.e) (h : ¬ I.Over m) : I.cut m = ONE := by
  unfold Cin.cut
  split
  · rfl
  · next h2 =>
    have h3 : I.fx m ≠ 2 := fun h' => h2 (.inl h')
    have h4 : I.load I.n m ≠ 0 := fun h' => h2 (.inr h')
    have h5 : double.order (I.load I.n m) (I.limit m) ≠ some .gt := fun h' => h ⟨h3, h'⟩
    exact fmin_one (divw_one (F.limit hm) (F.load (Nat.le_refl _) m) h4 h5) (divw_nn (F.limit hm) (F.load (Nat.le_refl _) m) h4).2.1

theorem Cin.Fits.cut_zero {I : Cin} (F : I.Fits) {m : Nat} (hm : m < I.e) (h : I.Loaded m) : I.cut m = 0 := by
  unfold Cin.cut
  obtain ⟨h1, h2⟩ := h
  rw [if_neg (by rintro (h | h); · omega
                 · exact h2 h)]
  have h3 : I.limit m = 0 := by simp [Cin.limit, h1]
  rw [(divw_nn (F.limit hm) (F.load (Nat.le_refl _) m) h2).2.2 h3]
  exact fmin_zero_right (by decide)

theorem Cin.Fits.cRun_one {I : Cin} (F : I.Fits) {s : Nat} (hs : s < I.n) {k : Nat} (hk : k ≤ I.E s - I.st s) (h : ∀ j, j < k → ¬ I.Over (I.M (I.st s + j))) : I.cRun s k = CC := by
  induction k with
  | zero => rfl
  | succ k ih =>
    unfold Cin.cRun
    rw [ih (by omega) (fun j hj => h j (by omega)), F.cut_one (F.mem s _ hs (by omega)).2 (h k (by omega)), mulw_one, fmin_CC]

theorem Cin.Fits.cRun_zero {I : Cin} (F : I.Fits) {s : Nat} (hs : s < I.n) {k : Nat} (hk : k ≤ I.E s - I.st s) (h : ∃ j, j < k ∧ I.Loaded (I.M (I.st s + j))) : I.cRun s k = 0 := by
  induction k with
  | zero => obtain ⟨j, h, _⟩ := h; omega
  | succ k ih =>
    obtain ⟨j, hj, hl⟩ := h
    unfold Cin.cRun
    have hm := (F.mem s (I.st s + k) hs (by omega)).2
    by_cases hjk : j = k
    · subst hjk
      rw [F.cut_zero hm hl, mulw_zero]
      exact fmin_zero_right (Nat.le_of_lt (F.cRun hs (by omega)))
    · rw [ih (by omega) ⟨j, by omega, hl⟩]
      exact fmin_zero_left (mulw_CC (F.cut hm)).2

/-- What the law asks of a set that holds a loaded taken element. -/
theorem Cin.Fits.share_zero {I : Cin} (F : I.Fits) {s : Nat} (hs : s < I.n) (h : ∃ j, j < I.E s - I.st s ∧ I.Loaded (I.M (I.st s + j))) : I.share s = 0 :=
  (mulw_fin (F.orig hs) (F.cRun hs (Nat.le_refl _))).2.2 (F.cRun_zero hs (Nat.le_refl _) h)

/-- What the law asks of a set that holds no overfull element. -/
theorem Cin.Fits.share_full {I : Cin} (F : I.Fits) {s : Nat} (hs : s < I.n) (h : ∀ j, j < I.E s - I.st s → ¬ I.Over (I.M (I.st s + j))) : I.share s = mulw (I.orig s) CC := by
  unfold Cin.share
  rw [F.cRun_one hs (Nat.le_refl _) h]

/-- The two marks of a set, in the midst, as the law's loop keeps them. -/
def Cin.ovAt (I : Cin) (m : Nat) : Bool := !(I.fx m == 2) && (double.order (I.load I.n m) (I.limit m) == some .gt)
def Cin.tlAt (I : Cin) (m : Nat) : Bool := (I.fx m == 1) && (double.order (I.load I.n m) 0 == some .gt)
def Cin.ovB (I : Cin) (s : Nat) : Nat → Bool
  | 0 => false
  | k + 1 => I.ovB s k || I.ovAt (I.M (I.st s + k))
def Cin.tlB (I : Cin) (s : Nat) : Nat → Bool
  | 0 => false
  | k + 1 => I.tlB s k || I.tlAt (I.M (I.st s + k))

theorem Cin.ovAt_iff (I : Cin) (m : Nat) : I.ovAt m = true ↔ I.Over m := by
  simp [Cin.ovAt, Cin.Over]
theorem Cin.Fits.tlAt {I : Cin} (F : I.Fits) {m : Nat} : I.tlAt m = true ↔ I.Loaded m := by
  have h := order_zero (F.load (Nat.le_refl _) m)
  unfold Cin.tlAt Cin.Loaded
  rw [h]
  by_cases h0 : I.load I.n m = 0 <;> simp [h0]

theorem Cin.ovB_false {I : Cin} {s k : Nat} (h : I.ovB s k = false) : ∀ j, j < k → ¬ I.Over (I.M (I.st s + j)) := by
  induction k with
  | zero => intro j hj; omega
  | succ k ih =>
    unfold Cin.ovB at h
    rw [Bool.or_eq_false_iff] at h
    intro j hj ho
    by_cases hjk : j = k
    · subst hjk
      rw [(I.ovAt_iff _).2 ho] at h
      simp at h
    · exact ih h.1 j (by omega) ho

theorem Cin.Fits.tlB_true {I : Cin} (F : I.Fits) {s k : Nat} (h : I.tlB s k = true) : ∃ j, j < k ∧ I.Loaded (I.M (I.st s + j)) := by
  induction k with
  | zero => cases h
  | succ k ih =>
    unfold Cin.tlB at h
    rw [Bool.or_eq_true] at h
    rcases h with h | h
    · obtain ⟨j, h1, h2⟩ := ih h
      exact ⟨j, by omega, h2⟩
    · exact ⟨k, by omega, F.tlAt.1 h⟩

end Go.Proofs.Qxb6601548a
