/- Where the two searches meet, plain; and the ground (Geo) out of two texts. No program. -/
import Derived.Test.Qxb6600671aMyers
namespace Go.Proofs.Qxb6600671a

/-- The edits from the start to (x, y). -/
def Dd (f g : Nat → Int) (x y : Int) : Int := x + y - 2 * (lcs f g x.toNat y.toNat : Int)
/-- The edits from (x, y) to the end of n and m lines. -/
def Ee (f g : Nat → Int) (n m : Nat) (x y : Int) : Int := (n - x) + (m - y) - 2 * (lcs (rev n f) (rev m g) (n - x.toNat) (m - y.toNat) : Int)

theorem toNat_succ {x : Int} (h : 0 ≤ x) : (x + 1).toNat = x.toNat + 1 := by omega

theorem geo (f g : Nat → Int) (n m : Nat) : Geo n m (fun x y => f x.toNat = g y.toNat) (Dd f g) (Ee f g n m) where
  n0 := by omega
  m0 := by omega
  d00 := by simp [Dd, lcs_zero_left]
  right := fun x y hx _ hy _ => by
    unfold Dd; rw [toNat_succ hx]
    have := lcs_mono_left f g x.toNat y.toNat; omega
  down := fun x y hx _ hy _ => by
    unfold Dd; rw [toNat_succ hy]
    have := lcs_mono_right f g x.toNat y.toNat; omega
  diag := fun x y hx _ hy _ h => by
    unfold Dd; rw [toNat_succ hx, toNat_succ hy, lcs_succ, if_pos h]
    omega
  pred := fun x y hx _ hy _ => by
    by_cases x0 : x = 0
    · by_cases y0 : y = 0
      · exact .inl ⟨x0, y0⟩
      · refine .inr (.inr (.inr ⟨by omega, ?_⟩))
        subst x0
        unfold Dd; simp only [Int.toNat_zero, lcs_zero_left]; omega
    · by_cases y0 : y = 0
      · refine .inr (.inr (.inl ⟨by omega, ?_⟩))
        subst y0
        unfold Dd; simp only [Int.toNat_zero, lcs_zero_right]; omega
      · have ex : x.toNat = (x - 1).toNat + 1 := by omega
        have ey : y.toNat = (y - 1).toNat + 1 := by omega
        by_cases h : f (x - 1).toNat = g (y - 1).toNat
        · refine .inr (.inl ⟨by omega, by omega, h, ?_⟩)
          unfold Dd; rw [ex, ey, lcs_succ, if_pos h]; omega
        · have e := lcs_succ f g (x - 1).toNat (y - 1).toNat
          rw [if_neg h, ← ex, ← ey] at e
          by_cases hm : lcs f g (x - 1).toNat y.toNat ≤ lcs f g x.toNat (y - 1).toNat
          · refine .inr (.inr (.inr ⟨by omega, ?_⟩))
            unfold Dd; omega
          · refine .inr (.inr (.inl ⟨by omega, ?_⟩))
            unfold Dd; omega
  dlo1 := fun x y hx _ hy _ => by unfold Dd; have := lcs_le_right f g x.toNat y.toNat; omega
  dlo2 := fun x y hx _ hy _ => by unfold Dd; have := lcs_le_left f g x.toNat y.toNat; omega
  dhi := fun x y hx _ hy _ => by unfold Dd; omega
  par := fun x y hx _ hy _ => by unfold Dd; omega
  eright := fun x y hx h hy _ => by
    unfold Ee; rw [toNat_succ hx, show n - x.toNat = (n - (x.toNat + 1)) + 1 by omega]
    have := lcs_mono_left (rev n f) (rev m g) (n - (x.toNat + 1)) (m - y.toNat); omega
  edown := fun x y hx _ hy h => by
    unfold Ee; rw [toNat_succ hy, show m - y.toNat = (m - (y.toNat + 1)) + 1 by omega]
    have := lcs_mono_right (rev n f) (rev m g) (n - x.toNat) (m - (y.toNat + 1)); omega
  ediag := fun x y hx hxn hy hym h => by
    unfold Ee; rw [toNat_succ hx, toNat_succ hy, show n - x.toNat = (n - (x.toNat + 1)) + 1 by omega, show m - y.toNat = (m - (y.toNat + 1)) + 1 by omega, lcs_succ, if_pos]
    · omega
    · unfold rev
      rw [show n - 1 - (n - (x.toNat + 1)) = x.toNat by omega, show m - 1 - (m - (y.toNat + 1)) = y.toNat by omega]
      exact h
  emono := fun x y hx hxn hy hym => by
    unfold Ee; rw [toNat_succ hx, toNat_succ hy, show n - x.toNat = (n - (x.toNat + 1)) + 1 by omega, show m - y.toNat = (m - (y.toNat + 1)) + 1 by omega]
    have := lcs_diag (rev n f) (rev m g) (n - (x.toNat + 1)) (m - (y.toNat + 1)); omega
  elo1 := fun x y hx _ hy _ => by unfold Ee; have := lcs_le_right (rev n f) (rev m g) (n - x.toNat) (m - y.toNat); omega
  elo2 := fun x y hx _ hy _ => by unfold Ee; have := lcs_le_left (rev n f) (rev m g) (n - x.toNat) (m - y.toNat); omega
  exn := fun y hy _ => by unfold Ee; rw [show n - (n : Int).toNat = 0 by omega, lcs_zero_left]; omega
  exm := fun x hx _ => by unfold Ee; rw [show m - (m : Int).toNat = 0 by omega, lcs_zero_right]; omega
  cat := fun x y hx hxn hy hym => by
    unfold Dd Ee
    have := lcs_cat f g (n := n) (m := m) (x := x.toNat) (y := y.toNat) (by omega) (by omega)
    simp only [Int.toNat_natCast]
    omega

/-- What the search from the end reckons, in the other's places. -/
theorem rev_D (f g : Nat → Int) (n m : Nat) {x y : Int} (h1 : 0 ≤ x) (h2 : x ≤ n) (h3 : 0 ≤ y) (h4 : y ≤ m) : Dd (rev n f) (rev m g) x y = Ee f g n m (n - x) (m - y) := by
  unfold Dd Ee
  rw [show n - ((n : Int) - x).toNat = x.toNat by omega, show m - ((m : Int) - y).toNat = y.toNat by omega]
  omega

theorem rev_E (f g : Nat → Int) (n m : Nat) {x y : Int} (h1 : 0 ≤ x) (h2 : x ≤ n) (h3 : 0 ≤ y) (h4 : y ≤ m) : Ee (rev n f) (rev m g) n m x y = Dd f g (n - x) (m - y) := by
  unfold Dd Ee
  rw [lcs_congr (f' := f) (g' := g) (fun k hk => rev_rev n f (by omega)) (fun k hk => rev_rev m g (by omega)), show ((n : Int) - x).toNat = n - x.toNat by omega, show ((m : Int) - y).toNat = m - y.toNat by omega]

theorem Ee_end (f g : Nat → Int) (n m : Nat) : Ee f g n m n m = 0 := by
  have := (geo f g n m).exn m (by omega) (Int.le_refl _)
  omega

/-- TWO SEARCHES THAT OVERLAP on a diagonal: the point of the one has that few edits on either side. -/
theorem meet {n m : Int} {mt : Int → Int → Prop} {D E D2 E2 : Int → Int → Int} (G : Geo n m mt D E) (hD2 : ∀ x y, 0 ≤ x → x ≤ n → 0 ≤ y → y ≤ m → D2 x y = E (n - x) (m - y))
    {d1 d2 k x y : Int} (p : Pt n m D E d1 k x) (hx : 0 ≤ x) (q : Pt n m D2 E2 d2 (n - m - k) y) (hy : 0 ≤ y) (h : n ≤ x + y) :
    x ≤ n ∧ 0 ≤ x - k ∧ x - k ≤ m ∧ D x (x - k) ≤ d1 ∧ E x (x - k) ≤ d2 := by
  rcases p.snd with p | ⟨p1, p2, p3, p4, p5, _⟩
  · omega
  rcases q.snd with q | ⟨q1, q2, q3, q4, q5, _⟩
  · omega
  refine ⟨p2, p3, p4, p5, ?_⟩
  rw [hD2 y (y - (n - m - k)) q1 q2 q3 q4, show m - (y - (n - m - k)) = n - y - k by omega] at q5
  have := G.emonoN (k := k) (a := n - y) (x := x) (by omega) (by omega) (by omega) p2 p4
  omega

/-- TWO SEARCHES THAT HAVE MADE AS MANY EDITS AS THE SHORTEST SCRIPT OVERLAP. -/
theorem must_meet {n m : Int} {mt mt2 : Int → Int → Prop} {D E D2 E2 : Int → Int → Int} (G : Geo n m mt D E) (_G2 : Geo n m mt2 D2 E2) (hEnd : E n m = 0)
    (hD2 : ∀ x y, 0 ≤ x → x ≤ n → 0 ≤ y → y ≤ m → D2 x y = E (n - x) (m - y)) (hE2 : ∀ x y, 0 ≤ x → x ≤ n → 0 ≤ y → y ≤ m → E2 x y = D (n - x) (m - y)) (hT : D2 n m = D n m)
    {d1 d2 : Int} (h1 : 0 ≤ d1) (h2 : 0 ≤ d2) (hsum : D n m = d1 + d2) {F B : Int → Int}
    (hF : ∀ k, -d1 ≤ k → k ≤ d1 → (k - d1) % 2 = 0 → Pt n m D E d1 k (F k)) (hB : ∀ k, -d2 ≤ k → k ≤ d2 → (k - d2) % 2 = 0 → Pt n m D2 E2 d2 k (B k)) :
    ∃ k, -d1 ≤ k ∧ k ≤ d1 ∧ (k - d1) % 2 = 0 ∧ -d2 ≤ n - m - k ∧ n - m - k ≤ d2 ∧ (n - m - k - d2) % 2 = 0 ∧ 0 ≤ F k ∧ 0 ≤ B (n - m - k) ∧ n ≤ F k + B (n - m - k) := by
  obtain ⟨x, y, x0, xn, y0, ym, hopt, hd⟩ := G.mid hEnd h1 (by omega)
  have a1 := G.dlo1 x y x0 xn y0 ym
  have a2 := G.dlo2 x y x0 xn y0 ym
  have a3 := G.elo1 x y x0 xn y0 ym
  have a4 := G.elo2 x y x0 xn y0 ym
  have a5 := G.par x y x0 xn y0 ym
  have a6 := G.par n m G.n0 (Int.le_refl _) G.m0 (Int.le_refl _)
  refine ⟨x - y, by omega, by omega, by omega, by omega, by omega, by omega, ?_⟩
  have f1 := (hF (x - y) (by omega) (by omega) (by omega)).cmp x y x0 xn y0 ym hopt hd rfl
  have e1 := hD2 (n - x) (m - y) (by omega) (by omega) (by omega) (by omega)
  have e2 := hE2 (n - x) (m - y) (by omega) (by omega) (by omega) (by omega)
  rw [show n - (n - x) = x by omega, show m - (m - y) = y by omega] at e1 e2
  have b1 := (hB (n - m - (x - y)) (by omega) (by omega) (by omega)).cmp (n - x) (m - y) (by omega) (by omega) (by omega) (by omega) (by omega) (by omega) (by omega)
  exact ⟨by omega, by omega, by omega⟩

/-- No edit to a point: its first lines are equal. -/
theorem Geo.first {n m : Int} {mt : Int → Int → Prop} {D E : Int → Int → Int} (G : Geo n m mt D E) : ∀ N : Nat, ∀ x y : Int, x + y ≤ N → 0 ≤ x → x ≤ n → 0 ≤ y → y ≤ m → D x y = 0 → 1 ≤ x ∨ 1 ≤ y → mt 0 0 := by
  intro N
  induction N with
  | zero => intro x y hN h1 h2 h3 h4 _ h; omega
  | succ N ih =>
    intro x y hN h1 h2 h3 h4 hD h
    rcases G.pred x y h1 h2 h3 h4 with ⟨rfl, rfl⟩ | ⟨p1, p2, p3, p4⟩ | ⟨p1, p2⟩ | ⟨p1, p2⟩
    · omega
    · by_cases he : 1 ≤ x - 1 ∨ 1 ≤ y - 1
      · exact ih (x - 1) (y - 1) (by omega) (by omega) (by omega) (by omega) (by omega) (by omega) he
      · rw [show x - 1 = 0 by omega, show y - 1 = 0 by omega] at p3; exact p3
    · have := G.dlo1 (x - 1) y (by omega) (by omega) h3 h4
      have := G.dlo2 (x - 1) y (by omega) (by omega) h3 h4
      omega
    · have := G.dlo1 x (y - 1) h1 h2 (by omega) (by omega)
      have := G.dlo2 x (y - 1) h1 h2 (by omega) (by omega)
      omega

/-- Where neither the first nor the last lines are equal there are two edits at least. -/
theorem Geo.two {n m : Int} {mt : Int → Int → Prop} {D E : Int → Int → Int} (G : Geo n m mt D E) (hn : 1 ≤ n) (hm : 1 ≤ m) (h0 : ¬ mt 0 0) (h1 : ¬ mt (n - 1) (m - 1)) : 2 ≤ D n m := by
  rcases G.pred n m (by omega) (Int.le_refl _) (by omega) (Int.le_refl _) with ⟨_, _⟩ | ⟨_, _, p3, _⟩ | ⟨_, p2⟩ | ⟨_, p2⟩
  · omega
  · exact absurd p3 h1
  · have a1 := G.dlo1 (n - 1) m (by omega) (by omega) (by omega) (by omega)
    have a2 := G.dlo2 (n - 1) m (by omega) (by omega) (by omega) (by omega)
    by_cases h : D (n - 1) m = 0
    · exact absurd (G.first (n - 1 + m).toNat (n - 1) m (by omega) (by omega) (by omega) (by omega) (by omega) h (by omega)) h0
    · omega
  · have a1 := G.dlo1 n (m - 1) (by omega) (by omega) (by omega) (by omega)
    have a2 := G.dlo2 n (m - 1) (by omega) (by omega) (by omega) (by omega)
    by_cases h : D n (m - 1) = 0
    · exact absurd (G.first (n + (m - 1)).toNat n (m - 1) (by omega) (by omega) (by omega) (by omega) (by omega) h (by omega)) h0
    · omega

theorem rev_T (f g : Nat → Int) (n m : Nat) : Dd (rev n f) (rev m g) n m = Dd f g n m := by
  unfold Dd
  simp only [Int.toNat_natCast]
  rw [lcs_rev]

end Go.Proofs.Qxb6600671a
