/- Words of binary64 that are not negative and no NaN. Plain laws on the model's numbers: no program. -/
import Ieee.Arith
namespace Go.Proofs.Qxb6601548a
open Ieee

/-- The word of infinity, of 1, and of 1 - 1e-9. -/
def INF : Nat := 9218868437227405312
def ONE : Nat := 4607182418800017408

theorem sw : double.signWeight = 9223372036854775808 := by decide
theorem bin : double.binade = 4503599627370496 := by decide
theorem infr : double.infRung = INF := by decide
theorem lp : double.leastPlace = -1074 := by decide
theorem fb : double.fractionBits = 52 := by decide

theorem word_false (r : Nat) : double.word false r = r := by simp [Format.word]

theorem nearest_nn (m : Nat) (p : Int) : double.nearest false m p ≤ INF := by
  unfold Format.nearest
  split
  · rw [word_false]; decide
  · dsimp only
    rw [word_false, infr]
    exact Nat.min_le_right _ _

theorem nearest_zero (p : Int) : double.nearest false 0 p = 0 := by simp [Format.nearest, word_false]

theorem write_num (m : Nat) (p : Int) : double.write (.number false m p) ≤ INF := nearest_nn m p
theorem write_inf : double.write (.infinity false) = INF := by simp [Format.write, word_false, infr]

/-- What a word up to infinity stands for. -/
theorem read_fin {x : Nat} (h : x < INF) : ∃ m i, double.read x = .number false m i ∧ (m = 0 ↔ x = 0) := by
  unfold INF at h
  have h1 : x / 9223372036854775808 = 0 := Nat.div_eq_of_lt (by omega)
  have h2 : x % 9223372036854775808 = x := Nat.mod_eq_of_lt (by omega)
  unfold Format.read
  simp only [sw, bin, infr, lp, h1, h2]
  by_cases hb : x < 4503599627370496
  · rw [if_pos hb]
    exact ⟨x, _, rfl, Iff.rfl⟩
  · rw [if_neg hb, if_pos (by unfold INF; exact h)]
    exact ⟨_, _, rfl, by omega⟩

theorem read_inf : double.read INF = .infinity false := by decide

theorem read_nn {x : Nat} (h : x ≤ INF) : (∃ m i, double.read x = .number false m i ∧ (m = 0 ↔ x = 0)) ∨ (x = INF ∧ double.read x = .infinity false) := by
  rcases Nat.lt_or_ge x INF with h1 | h1
  · exact .inl (read_fin h1)
  · obtain rfl : x = INF := by omega
    exact .inr ⟨rfl, read_inf⟩

theorem add_nn {x y : Nat} (hx : x ≤ INF) (hy : y ≤ INF) : ∃ z, double.add x y = some z ∧ z ≤ INF := by
  unfold Format.add
  rcases read_nn hx with ⟨m, i, ex, -⟩ | ⟨-, ex⟩ <;> rcases read_nn hy with ⟨n, j, ey, -⟩ | ⟨-, ey⟩ <;> rw [ex, ey]
  · simp only [Datum.sum, signed, Option.map_some]
    refine ⟨_, rfl, ?_⟩
    simp only [Bool.false_eq_true, if_false, Bool.and_self]
    generalize m <<< (i - min i j).toNat = a
    generalize n <<< (j - min i j).toNat = b
    have hs : ¬ ((a : Nat) : Int) + ((b : Nat) : Int) < 0 := by omega
    rw [decide_eq_false hs]
    simp only [ite_self]
    exact write_num _ _
  · exact ⟨_, rfl, by rw [write_inf]; exact Nat.le_refl _⟩
  · exact ⟨_, rfl, by rw [write_inf]; exact Nat.le_refl _⟩
  · exact ⟨_, rfl, by show double.write (.infinity false) ≤ INF; rw [write_inf]; exact Nat.le_refl _⟩

theorem mul_fin {x y : Nat} (hx : x < INF) (hy : y < INF) : ∃ z, double.mul x y = some z ∧ z ≤ INF ∧ (y = 0 → z = 0) := by
  unfold Format.mul
  obtain ⟨m, i, ex, h1⟩ := read_fin hx
  obtain ⟨n, j, ey, h2⟩ := read_fin hy
  rw [ex, ey]
  refine ⟨_, rfl, write_num _ _, fun h => ?_⟩
  have : n = 0 := h2.2 h
  subst this
  exact nearest_zero _

theorem mul_nn {x y : Nat} (hx : x ≤ INF) (hy : y < INF) (hy0 : y ≠ 0) : ∃ z, double.mul x y = some z ∧ z ≤ INF := by
  unfold Format.mul
  obtain ⟨n, j, ey, h2⟩ := read_fin hy
  rcases read_nn hx with ⟨m, i, ex, -⟩ | ⟨-, ex⟩ <;> rw [ex, ey]
  · exact ⟨_, rfl, write_num _ _⟩
  · have hn : n ≠ 0 := fun h => hy0 (h2.1 h)
    simp only [Datum.product, if_neg hn, Option.map_some]
    exact ⟨_, rfl, by show double.write (.infinity false) ≤ INF; rw [write_inf]; exact Nat.le_refl _⟩

theorem div_nn {x y : Nat} (hx : x < INF) (hy : y ≤ INF) (hy0 : y ≠ 0) : ∃ z, double.div x y = some z ∧ z ≤ INF ∧ (x = 0 → z = 0) := by
  unfold Format.div
  obtain ⟨m, i, ex, h1⟩ := read_fin hx
  rcases read_nn hy with ⟨n, j, ey, h2⟩ | ⟨-, ey⟩ <;> rw [ex, ey]
  · have hn : n ≠ 0 := fun h => hy0 (h2.1 h)
    simp only [Datum.quotient, if_neg hn, Option.map_some]
    refine ⟨_, rfl, write_num _ _, fun h => ?_⟩
    have : m = 0 := h1.2 h
    subst this
    simp [Format.write, nearest_zero]
  · refine ⟨_, rfl, write_num _ _, fun _ => nearest_zero _⟩


theorem read_zero : double.read 0 = .number false 0 (-1074) := by decide

theorem shl_pos {m k : Nat} (h : m ≠ 0) : 0 < m <<< k := by
  rw [Nat.shiftLeft_eq]
  exact Nat.mul_pos (by omega) (Nat.two_pow_pos _)

/-- A word up to infinity against nought. -/
theorem order_zero {x : Nat} (hx : x ≤ INF) : double.order x 0 = some (if x = 0 then .eq else .gt) := by
  unfold Format.order
  rw [read_zero]
  rcases read_nn hx with ⟨m, i, ex, h1⟩ | ⟨rfl, ex⟩
  · rw [ex]
    simp only [Datum.order, signed, Bool.false_eq_true, if_false, Nat.zero_shiftLeft]
    by_cases h : x = 0
    · have : m = 0 := h1.2 h
      subst this
      rw [if_pos h, Nat.zero_shiftLeft]
      rfl
    · rw [if_neg h]
      have hm : m ≠ 0 := fun hh => h (h1.1 hh)
      have := shl_pos (k := (i - min i (-1074)).toNat) hm
      congr 1
      rw [Int.compare_eq_gt]
      omega
  · rw [ex]
    rfl

theorem zero_order {x : Nat} (hx : x ≤ INF) : double.order 0 x = some (if x = 0 then .eq else .lt) := by
  unfold Format.order
  rw [read_zero]
  rcases read_nn hx with ⟨m, i, ex, h1⟩ | ⟨rfl, ex⟩
  · rw [ex]
    simp only [Datum.order, signed, Bool.false_eq_true, if_false, Nat.zero_shiftLeft]
    by_cases h : x = 0
    · have : m = 0 := h1.2 h
      subst this
      rw [if_pos h, Nat.zero_shiftLeft]
      rfl
    · rw [if_neg h]
      have hm : m ≠ 0 := fun hh => h (h1.1 hh)
      have := shl_pos (k := (i - min (-1074) i).toNat) hm
      congr 1
      rw [Int.compare_eq_lt]
      omega
  · rw [ex]
    rfl

/-- Two words up to infinity have an order. -/
theorem order_some {x y : Nat} (hx : x ≤ INF) (hy : y ≤ INF) : ∃ o, double.order x y = some o := by
  unfold Format.order
  rcases read_nn hx with ⟨m, i, ex, -⟩ | ⟨-, ex⟩ <;> rcases read_nn hy with ⟨n, j, ey, -⟩ | ⟨-, ey⟩ <;> rw [ex, ey] <;> exact ⟨_, rfl⟩

theorem order_inf {x : Nat} (hx : x < INF) : double.order x INF = some .lt := by
  unfold Format.order
  obtain ⟨m, i, ex, -⟩ := read_fin hx
  rw [ex, read_inf]
  rfl

theorem inf_order {x : Nat} (hx : x < INF) : double.order INF x = some .gt := by
  unfold Format.order
  obtain ⟨m, i, ex, -⟩ := read_fin hx
  rw [ex, read_inf]
  rfl

theorem neg_nn {x : Nat} (hx : x ≤ INF) : (double.read x).neg = false := by
  rcases read_nn hx with ⟨m, i, ex, -⟩ | ⟨-, ex⟩ <;> rw [ex] <;> rfl

theorem one_order {z : Nat} (h1 : ONE ≤ z) (h2 : z ≤ INF) : double.order ONE z = some .lt ∨ (z = ONE ∧ double.order ONE z = some .eq) := by
  rcases Nat.lt_or_ge z INF with h3 | h3
  · by_cases he : z = ONE
    · subst he
      exact .inr ⟨rfl, by decide⟩
    · left
      unfold Format.order
      have e1 : double.read ONE = .number false 4503599627370496 (-52) := by decide
      rw [e1]
      unfold ONE INF at *
      have d1 : z / 9223372036854775808 = 0 := Nat.div_eq_of_lt (by omega)
      have d2 : z % 9223372036854775808 = z := Nat.mod_eq_of_lt (by omega)
      have e2 : double.read z = .number false (4503599627370496 + z % 4503599627370496) (-1074 + (z / 4503599627370496 - 1 : Nat)) := by
        unfold Format.read
        simp only [sw, bin, infr, lp, d1, d2]
        rw [if_neg (by omega), if_pos (by unfold INF; exact h3)]
        rfl
      rw [e2]
      simp only [Datum.order, signed, Bool.false_eq_true, if_false]
      have hq : 1023 ≤ z / 4503599627370496 := by omega
      generalize hi : (-1074 + ((z / 4503599627370496 - 1 : Nat) : Int)) = i
      have hb : min (-52) i = -52 := by omega
      rw [hb]
      rw [show ((-52 : Int) - -52).toNat = 0 by omega, Nat.shiftLeft_zero]
      congr 1
      rw [Int.compare_eq_lt]
      rw [Nat.shiftLeft_eq]
      by_cases hq2 : z / 4503599627370496 = 1023
      · have : (i - -52).toNat = 0 := by omega
        rw [this]
        omega
      · obtain ⟨k, hk⟩ : ∃ k, (i - -52).toNat = k + 1 := ⟨(i - -52).toNat - 1, by omega⟩
        rw [hk, Nat.pow_succ]
        have hp := Nat.two_pow_pos k
        have : (4503599627370496 + z % 4503599627370496) * 1 ≤ (4503599627370496 + z % 4503599627370496) * 2 ^ k := Nat.mul_le_mul_left _ hp
        rw [← Nat.mul_assoc]
        generalize (4503599627370496 + z % 4503599627370496) * 2 ^ k = y at *
        omega
  · obtain rfl : z = INF := by omega
    left
    decide

/-- A number of at least 1 is written at 1 or above. -/
theorem nearest_one {m : Nat} {p : Int} (hm : m ≠ 0) (h : 0 ≤ p + m.log2) : ONE ≤ double.nearest false m p := by
  unfold Format.nearest
  rw [if_neg hm]
  dsimp only
  rw [word_false, infr, bin, lp, fb]
  have hlast : max (p + (m.log2 : Int) - (52 : Nat)) (-1074) = p + m.log2 - 52 := by omega
  rw [hlast]
  have hk : 4503599627370496 ≤ Toward.even.cut false (m <<< (p - (p + m.log2 - 52)).toNat) ((p + m.log2 - 52) - p).toNat := by
    unfold Toward.cut
    dsimp only
    refine Nat.le_trans ?_ (Nat.le_add_right _ _)
    have hlog : 2 ^ m.log2 ≤ m := Nat.log2_self_le hm
    rcases Nat.lt_or_ge m.log2 52 with hl | hl
    · have e1 : (p - (p + m.log2 - 52)).toNat = 52 - m.log2 := by omega
      have e2 : ((p + m.log2 - 52) - p).toNat = 0 := by omega
      rw [e1, e2, Nat.zero_min, Nat.shiftLeft_zero, Nat.div_one, Nat.shiftLeft_eq]
      calc 4503599627370496 = 2 ^ m.log2 * 2 ^ (52 - m.log2) := by rw [← Nat.pow_add, show m.log2 + (52 - m.log2) = 52 by omega]
        _ ≤ m * 2 ^ (52 - m.log2) := Nat.mul_le_mul_right _ hlog
    · have e1 : (p - (p + m.log2 - 52)).toNat = 0 := by omega
      have e2 : ((p + m.log2 - 52) - p).toNat = m.log2 - 52 := by omega
      rw [e1, e2, Nat.shiftLeft_zero, show min (m.log2 - 52) (m.log2 + 2) = m.log2 - 52 by omega, Nat.shiftLeft_eq, Nat.one_mul]
      rw [Nat.le_div_iff_mul_le (Nat.two_pow_pos _)]
      calc 4503599627370496 * 2 ^ (m.log2 - 52) = 2 ^ m.log2 := by rw [show (4503599627370496 : Nat) = 2 ^ 52 from rfl, ← Nat.pow_add, show 52 + (m.log2 - 52) = m.log2 by omega]
        _ ≤ m := hlog
  generalize Toward.even.cut false (m <<< (p - (p + m.log2 - 52)).toNat) ((p + m.log2 - 52) - p).toNat = kept at *
  unfold ONE INF
  have : 1022 ≤ (p + m.log2 - 52 - -1074).toNat := by omega
  generalize (p + m.log2 - 52 - -1074).toNat = t at *
  omega

/-- A quotient of a number by one that is not above it, and above nought, is at least 1. -/
theorem div_one_le {x y : Nat} (hx : x < INF) (hy : y ≤ INF) (hy0 : y ≠ 0) (ho : double.order y x ≠ some .gt) : ∃ z, double.div x y = some z ∧ ONE ≤ z ∧ z ≤ INF := by
  rcases Nat.lt_or_ge y INF with hyf | hyf
  · obtain ⟨m, i, ex, h1⟩ := read_fin hx
    obtain ⟨n, j, ey, h2⟩ := read_fin hyf
    unfold Format.order at ho
    unfold Format.div
    rw [ex, ey] at ho
    rw [ex, ey]
    have hn : n ≠ 0 := fun h => hy0 (h2.1 h)
    simp only [Datum.order, signed, Bool.false_eq_true, if_false, Nat.shiftLeft_eq] at ho
    have hle : n * 2 ^ (j - min j i).toNat ≤ m * 2 ^ (i - min j i).toNat := by
      rcases Nat.lt_or_ge (m * 2 ^ (i - min j i).toNat) (n * 2 ^ (j - min j i).toNat) with h | h
      · exact absurd (by congr 1; rw [Int.compare_eq_gt]; exact Int.ofNat_lt.2 h) ho
      · exact h
    clear ho
    have hm : m ≠ 0 := by
      rintro rfl
      have := Nat.mul_pos (Nat.pos_of_ne_zero hn) (Nat.two_pow_pos (j - min j i).toNat)
      omega
    simp only [Datum.quotient, if_neg hn, Option.map_some]
    refine ⟨_, rfl, ?_, write_num _ _⟩
    show ONE ≤ double.nearest false _ _
    generalize hmore : double.fractionBits + 2 + n.log2 - m.log2 = more
    clear hmore
    have hD : m <<< more ≠ 0 := by have := shl_pos (k := more) hm; omega
    generalize hDD : m <<< more = D at *
    have hmag : 2 * (D / n) + (D % n != 0).toNat ≠ 0 := by
      intro h
      have q0 : D / n = 0 := by omega
      have r0 : (D % n != 0).toNat = 0 := by omega
      have r1 : D % n = 0 := by
        rcases Nat.eq_zero_or_pos (D % n) with h | h
        · exact h
        · have : (D % n != 0) = true := by simp; omega
          rw [this] at r0
          cases r0
      have := Nat.div_add_mod D n
      rw [q0, r1] at this
      simp at this
      omega
    refine nearest_one hmag ?_
    have hl : ∀ k : Nat, 2 ^ k ≤ 2 * (D / n) + (D % n != 0).toNat → k ≤ (2 * (D / n) + (D % n != 0).toNat).log2 := fun k hk => (Nat.le_log2 hmag).2 hk
    rcases Int.lt_or_le ((more : Int) + j - i) 0 with hK | hK
    · omega
    · obtain ⟨K, hKK⟩ : ∃ K : Nat, (K : Int) = (more : Int) + j - i := ⟨((more : Int) + j - i).toNat, by omega⟩
      have hq : 2 ^ K ≤ D / n := by
        rw [Nat.le_div_iff_mul_le (Nat.pos_of_ne_zero hn), ← hDD, Nat.shiftLeft_eq]
        rcases Int.lt_or_le i j with hij | hij
        · rw [show min j i = i by omega, show (i - i).toNat = 0 by omega, Nat.pow_zero, Nat.mul_one] at hle
          have : K = (j - i).toNat + more := by omega
          rw [this, Nat.pow_add, Nat.mul_right_comm, Nat.mul_comm _ n]
          exact Nat.mul_le_mul_right _ hle
        · rw [show min j i = j by omega, show (j - j).toNat = 0 by omega, Nat.pow_zero, Nat.mul_one] at hle
          have : more = (i - j).toNat + K := by omega
          rw [this, Nat.pow_add, ← Nat.mul_assoc, Nat.mul_comm (2 ^ K)]
          exact Nat.mul_le_mul_right _ hle
      have := hl (K + 1) (by rw [Nat.pow_succ]; omega)
      omega
  · obtain rfl : y = INF := by omega
    exact absurd (inf_order hx) ho


/-- Go's min and max of two words, where neither is a NaN. -/
def fmin (x y : Nat) : Nat :=
  match double.order x y with
  | some .lt => x
  | some .gt => y
  | _ => if (double.read x).neg then x else y
def fmax (x y : Nat) : Nat :=
  match double.order x y with
  | some .lt => y
  | some .gt => x
  | _ => if (double.read x).neg then y else x

theorem fmin_one {z : Nat} (h1 : ONE ≤ z) (h2 : z ≤ INF) : fmin ONE z = ONE := by
  unfold fmin
  rcases one_order h1 h2 with h | ⟨rfl, h⟩ <;> rw [h]
  rw [neg_nn (by decide)]; rfl

theorem fmin_fin {x y : Nat} (hx : x < INF) (hy : y ≤ INF) : fmin x y < INF := by
  unfold fmin
  rcases Nat.lt_or_ge y INF with h | h
  · have hxy : ∀ b : Bool, (if b then x else y) < INF := fun b => by cases b <;> assumption
    split
    · exact hx
    · exact h
    · exact hxy _
  · obtain rfl : y = INF := by omega
    rw [order_inf hx]
    exact hx

theorem fmin_zero_right {x : Nat} (hx : x ≤ INF) : fmin x 0 = 0 := by
  unfold fmin
  rw [order_zero hx, neg_nn hx]
  by_cases h : x = 0
  · rw [if_pos h]; rfl
  · rw [if_neg h]

theorem fmin_zero_left {y : Nat} (hy : y ≤ INF) : fmin 0 y = 0 := by
  unfold fmin
  rw [zero_order hy, neg_nn (by decide)]
  by_cases h : y = 0
  · rw [if_pos h]; exact h
  · rw [if_neg h]

theorem order_self {x : Nat} (hx : x ≤ INF) : double.order x x = some .eq := by
  unfold Format.order
  rcases read_nn hx with ⟨m, i, ex, -⟩ | ⟨-, ex⟩ <;> rw [ex]
  · simp [Datum.order]
  · rfl

/-- A word that stands for a number. -/
def Fin (v : Nat) : Prop := ∃ s m i, double.read v = .number s m i

/-- 'v - v' is 0 for a number, and no number else. -/
theorem sub_self {v : Nat} : (Fin v ∧ double.sub v v = some 0) ∨ (¬ Fin v ∧ double.sub v v = none) := by
  unfold Format.sub Fin
  cases h : double.read v with
  | number s m i =>
    refine .inl ⟨⟨s, m, i, rfl⟩, ?_⟩
    simp only [Datum.opposite, Datum.sum, Option.map_some]
    have : signed s m (i - min i i).toNat + signed (!s) m (i - min i i).toNat = 0 := by
      unfold signed
      cases s <;> simp <;> omega
    rw [this]
    cases s <;> rfl
  | infinity s =>
    refine .inr ⟨fun ⟨s', m, i, hh⟩ => (by cases hh), ?_⟩
    cases s <;> rfl
  | nan s t => exact .inr ⟨fun ⟨s', m, i, hh⟩ => (by cases hh), rfl⟩

/-- A number above nought lies below infinity. -/
theorem pos_fin {v : Nat} (hv : v < 18446744073709551616) (hf : Fin v) (hp : double.order v 0 = some .gt) : v < INF := by
  unfold Format.order at hp
  rw [read_zero] at hp
  obtain ⟨s, m, i, hr⟩ := hf
  rw [hr] at hp
  have hs : s = false := by
    cases s
    · rfl
    · exfalso
      simp only [Datum.order, signed, if_true, Bool.false_eq_true, if_false, Nat.zero_shiftLeft] at hp
      injection hp with hp
      rw [Int.compare_eq_gt] at hp
      generalize m <<< (i - min i (-1074)).toNat = a at hp
      omega
  subst hs
  clear hp
  unfold Format.read at hr
  simp only [sw, bin, infr, lp] at hr
  unfold INF at *
  split at hr
  · injection hr with h1 h2 h3
    have : v / 9223372036854775808 % 2 = 0 := by
      have := Nat.mod_two_eq_zero_or_one (v / 9223372036854775808)
      simp at h1
      omega
    omega
  · split at hr
    · injection hr with h1 h2 h3
      have : v / 9223372036854775808 % 2 = 0 := by
        have := Nat.mod_two_eq_zero_or_one (v / 9223372036854775808)
        simp at h1
        omega
      omega
    · split at hr <;> cases hr

/-- 'max(0, v)' of a number. -/
theorem fmax_zero {v : Nat} (hf : Fin v) : fmax 0 v = if double.order v 0 = some .gt then v else 0 := by
  obtain ⟨s, m, i, hr⟩ := hf
  unfold fmax Format.order
  rw [read_zero, hr]
  simp only [Datum.order, signed, Bool.false_eq_true, if_false, Nat.zero_shiftLeft]
  have e : min i (-1074) = min (-1074) i := by omega
  rw [e]
  generalize (if s = true then -((m <<< (i - min (-1074) i).toNat : Nat) : Int) else ((m <<< (i - min (-1074) i).toNat : Nat) : Int)) = a
  rcases Int.lt_trichotomy 0 a with h | h | h
  · rw [(Int.compare_eq_lt (a := ((0 : Nat) : Int))).2 h, (Int.compare_eq_gt (b := ((0 : Nat) : Int))).2 h]
    simp
  · subst h
    rfl
  · rw [(Int.compare_eq_gt (a := ((0 : Nat) : Int))).2 h, (Int.compare_eq_lt (b := ((0 : Nat) : Int))).2 h]
    simp

end Go.Proofs.Qxb6601548a
