/- The two searches of 'split', plain: what each reaches, that they meet no later than halfway, and that where they meet lies on a shortest script. No program. -/
import Derived.Test.Qxb6600671aLcs
namespace Go.Proofs.Qxb6600671a

/-- THE GROUND: a box of n by m; 'mt x y': line x of the one equals line y of the other; 'D x y': the edits from the start to (x, y); 'E x y': those from (x, y) to the end. -/
structure Geo (n m : Int) (mt : Int → Int → Prop) (D E : Int → Int → Int) : Prop where
  n0 : 0 ≤ n
  m0 : 0 ≤ m
  d00 : D 0 0 = 0
  right : ∀ x y, 0 ≤ x → x < n → 0 ≤ y → y ≤ m → D (x + 1) y ≤ D x y + 1
  down : ∀ x y, 0 ≤ x → x ≤ n → 0 ≤ y → y < m → D x (y + 1) ≤ D x y + 1
  diag : ∀ x y, 0 ≤ x → x < n → 0 ≤ y → y < m → mt x y → D (x + 1) (y + 1) ≤ D x y
  pred : ∀ x y, 0 ≤ x → x ≤ n → 0 ≤ y → y ≤ m → (x = 0 ∧ y = 0) ∨ (1 ≤ x ∧ 1 ≤ y ∧ mt (x - 1) (y - 1) ∧ D (x - 1) (y - 1) = D x y) ∨ (1 ≤ x ∧ D (x - 1) y = D x y - 1) ∨ (1 ≤ y ∧ D x (y - 1) = D x y - 1)
  dlo1 : ∀ x y, 0 ≤ x → x ≤ n → 0 ≤ y → y ≤ m → x - y ≤ D x y
  dlo2 : ∀ x y, 0 ≤ x → x ≤ n → 0 ≤ y → y ≤ m → y - x ≤ D x y
  dhi : ∀ x y, 0 ≤ x → x ≤ n → 0 ≤ y → y ≤ m → D x y ≤ x + y
  par : ∀ x y, 0 ≤ x → x ≤ n → 0 ≤ y → y ≤ m → (D x y - (x + y)) % 2 = 0
  eright : ∀ x y, 0 ≤ x → x < n → 0 ≤ y → y ≤ m → E x y ≤ E (x + 1) y + 1
  edown : ∀ x y, 0 ≤ x → x ≤ n → 0 ≤ y → y < m → E x y ≤ E x (y + 1) + 1
  ediag : ∀ x y, 0 ≤ x → x < n → 0 ≤ y → y < m → mt x y → E x y ≤ E (x + 1) (y + 1)
  emono : ∀ x y, 0 ≤ x → x < n → 0 ≤ y → y < m → E (x + 1) (y + 1) ≤ E x y
  elo1 : ∀ x y, 0 ≤ x → x ≤ n → 0 ≤ y → y ≤ m → (n - x) - (m - y) ≤ E x y
  elo2 : ∀ x y, 0 ≤ x → x ≤ n → 0 ≤ y → y ≤ m → (m - y) - (n - x) ≤ E x y
  exn : ∀ y, 0 ≤ y → y ≤ m → E n y = m - y
  exm : ∀ x, 0 ≤ x → x ≤ n → E x m = n - x
  cat : ∀ x y, 0 ≤ x → x ≤ n → 0 ≤ y → y ≤ m → D n m ≤ D x y + E x y

/-- A point that the search from the start has reached on the diagonal k with d edits (or -1), and that no point of a shortest script lies further on there. -/
structure Pt (n m : Int) (D E : Int → Int → Int) (d k v : Int) : Prop where
  snd : v = -1 ∨ (0 ≤ v ∧ v ≤ n ∧ 0 ≤ v - k ∧ v - k ≤ m ∧ D v (v - k) ≤ d ∧ d ≤ 2 * v - k)
  cmp : ∀ x y, 0 ≤ x → x ≤ n → 0 ≤ y → y ≤ m → D x y + E x y = D n m → D x y = d → x - y = k → x ≤ v

/-- Where 'advance' sets out on the diagonal k: lo, hi: what lies on the diagonals below and above. -/
def cand (n m k d lo hi : Int) : Int :=
  if k < d ∧ (if -d < k ∧ 0 ≤ lo ∧ lo + 1 ≤ n then lo + 1 else if d = 0 then 0 else -1) ≤ hi ∧ hi - k ≤ m then hi
  else (if -d < k ∧ 0 ≤ lo ∧ lo + 1 ≤ n then lo + 1 else if d = 0 then 0 else -1)

/-- .. and where it comes to, along equal lines. -/
def Snake (n m k : Int) (mt : Int → Int → Prop) (c x : Int) : Prop :=
  (c < 0 → x = c) ∧ (0 ≤ c → c ≤ x ∧ (∀ t, c ≤ t → t < x → t < n ∧ t - k < m ∧ mt t (t - k)) ∧ ¬ (x < n ∧ x - k < m ∧ mt x (x - k)))

theorem cand_cases (n m k d lo hi : Int) :
    (cand n m k d lo hi = hi ∧ k < d ∧ hi - k ≤ m ∧ -1 ≤ hi) ∨ (cand n m k d lo hi = lo + 1 ∧ -d < k ∧ 0 ≤ lo ∧ lo + 1 ≤ n) ∨ (cand n m k d lo hi = 0 ∧ d = 0) ∨ (cand n m k d lo hi = -1 ∧ d ≠ 0) := by
  unfold cand
  by_cases h1 : -d < k ∧ 0 ≤ lo ∧ lo + 1 ≤ n
  · rw [if_pos h1]
    by_cases h2 : k < d ∧ lo + 1 ≤ hi ∧ hi - k ≤ m
    · rw [if_pos h2]; exact .inl ⟨rfl, h2.1, h2.2.2, by omega⟩
    · rw [if_neg h2]; exact .inr (.inl ⟨rfl, h1.1, h1.2.1, h1.2.2⟩)
  · rw [if_neg h1]
    by_cases h3 : d = 0
    · rw [if_pos h3]
      by_cases h2 : k < d ∧ (0 : Int) ≤ hi ∧ hi - k ≤ m
      · rw [if_pos h2]; exact .inl ⟨rfl, h2.1, h2.2.2, by omega⟩
      · rw [if_neg h2]; exact .inr (.inr (.inl ⟨rfl, h3⟩))
    · rw [if_neg h3]
      by_cases h2 : k < d ∧ (-1 : Int) ≤ hi ∧ hi - k ≤ m
      · rw [if_pos h2]; exact .inl ⟨rfl, h2.1, h2.2.2, h2.2.1⟩
      · rw [if_neg h2]; exact .inr (.inr (.inr ⟨rfl, h3⟩))

theorem cand_lo {n m k d lo hi : Int} (h1 : -d < k) (h2 : 0 ≤ lo) (h3 : lo + 1 ≤ n) : lo + 1 ≤ cand n m k d lo hi := by
  have h : -d < k ∧ 0 ≤ lo ∧ lo + 1 ≤ n := ⟨h1, h2, h3⟩
  unfold cand
  rw [if_pos h]
  split <;> omega

theorem cand_hi {n m k d lo hi : Int} (h1 : k < d) (h3 : hi - k ≤ m) (h0 : d = 0 → False) : hi ≤ cand n m k d lo hi ∨ hi < 0 := by
  unfold cand
  by_cases h2 : -d < k ∧ 0 ≤ lo ∧ lo + 1 ≤ n
  · rw [if_pos h2]
    by_cases h4 : k < d ∧ lo + 1 ≤ hi ∧ hi - k ≤ m
    · rw [if_pos h4]; omega
    · rw [if_neg h4]; left
      have : ¬ lo + 1 ≤ hi := fun h => h4 ⟨h1, h, h3⟩
      omega
  · rw [if_neg h2, if_neg (fun h => h0 h)]
    by_cases h4 : k < d ∧ (-1 : Int) ≤ hi ∧ hi - k ≤ m
    · rw [if_pos h4]; omega
    · rw [if_neg h4]; right
      have : ¬ (-1 : Int) ≤ hi := fun h => h4 ⟨h1, h, h3⟩
      omega

/-- Along equal lines the edits do not grow. -/
theorem snake_D {n m : Int} {mt : Int → Int → Prop} {D E : Int → Int → Int} (G : Geo n m mt D E) {k c x : Int} (hc : 0 ≤ c) (hck : 0 ≤ c - k) (hx : c ≤ x)
    (hall : ∀ t, c ≤ t → t < x → t < n ∧ t - k < m ∧ mt t (t - k)) : D x (x - k) ≤ D c (c - k) := by
  have key : ∀ N : Nat, ∀ x : Int, x = c + N → (∀ t, c ≤ t → t < x → t < n ∧ t - k < m ∧ mt t (t - k)) → D x (x - k) ≤ D c (c - k) := by
    intro N
    induction N with
    | zero => intro x hx _; rw [show x = c by omega]; exact Int.le_refl _
    | succ N ih =>
      intro x hx hall
      have h1 := ih (x - 1) (by omega) (fun t h1 h2 => hall t h1 (by omega))
      obtain ⟨h2, h3, h4⟩ := hall (x - 1) (by omega) (by omega)
      have h5 := G.diag (x - 1) (x - 1 - k) (by omega) h2 (by omega) h3 h4
      rw [show x - 1 + 1 = x by omega, show x - 1 - k + 1 = x - k by omega] at h5
      omega
  exact key (x - c).toNat x (by omega) hall

/-- ONE STEP OF A SEARCH. -/
theorem adv_pt {n m : Int} {mt : Int → Int → Prop} {D E : Int → Int → Int} (G : Geo n m mt D E) {d k lo hi x : Int} (hd : 0 ≤ d) (hk1 : -d ≤ k) (hk2 : k ≤ d)
    (hlo : -d < k → Pt n m D E (d - 1) (k - 1) lo) (hhi : k < d → Pt n m D E (d - 1) (k + 1) hi) (hs : Snake n m k mt (cand n m k d lo hi) x) : Pt n m D E d k x := by
  -- where it sets out
  have hc : cand n m k d lo hi = -1 ∨ (0 ≤ cand n m k d lo hi ∧ cand n m k d lo hi ≤ n ∧ 0 ≤ cand n m k d lo hi - k ∧ cand n m k d lo hi - k ≤ m ∧ D (cand n m k d lo hi) (cand n m k d lo hi - k) ≤ d ∧ d ≤ 2 * cand n m k d lo hi - k) := by
    rcases cand_cases n m k d lo hi with ⟨h, h1, h2, h3⟩ | ⟨h, h1, h2, h3⟩ | ⟨h, h1⟩ | ⟨h, _⟩
    · rw [h]
      rcases (hhi h1).snd with h4 | ⟨h4, h5, h6, h7, h8, h9⟩
      · exact .inl h4
      · refine .inr ⟨h4, h5, by omega, h2, ?_, by omega⟩
        have := G.down hi (hi - (k + 1)) h4 h5 h6 (by omega)
        rw [show hi - (k + 1) + 1 = hi - k by omega] at this
        omega
    · rw [h]
      rcases (hlo h1).snd with h4 | ⟨h4, h5, h6, h7, h8, h9⟩
      · omega
      · refine .inr ⟨by omega, h3, by omega, by omega, ?_, by omega⟩
        have := G.right lo (lo - (k - 1)) h4 (by omega) h6 h7
        rw [show lo - (k - 1) = lo + 1 - k by omega] at this h8
        omega
    · rw [h]
      have := G.n0
      have := G.m0
      obtain rfl : k = 0 := by omega
      refine .inr ⟨by omega, by omega, by omega, by omega, ?_, by omega⟩
      have := G.d00
      simp only [Int.sub_zero]
      omega
    · exact .inl h
  generalize hcc : cand n m k d lo hi = c at hc hs
  refine ⟨?_, ?_⟩
  · rcases hc with hc | ⟨h1, h2, h3, h4, h5, h6⟩
    · exact .inl (by rw [hs.1 (by omega), hc])
    · obtain ⟨g1, g2, _⟩ := hs.2 h1
      right
      have h7 : x ≤ n ∧ x - k ≤ m := by
        by_cases hcx : c < x
        · have := g2 (x - 1) (by omega) (by omega); omega
        · omega
      exact ⟨by omega, h7.1, by omega, h7.2, by have := snake_D G h1 h3 g1 g2; omega, by omega⟩
  · -- no point of a shortest script lies further on
    have key : ∀ N : Nat, ∀ x0 y0 : Int, x0 + y0 ≤ N → 0 ≤ x0 → x0 ≤ n → 0 ≤ y0 → y0 ≤ m → D x0 y0 + E x0 y0 = D n m → D x0 y0 = d → x0 - y0 = k → x0 ≤ x := by
      intro N
      induction N with
      | zero =>
        intro x0 y0 hN h1 h2 h3 h4 h5 h6 h7
        obtain rfl : x0 = 0 := by omega
        obtain rfl : y0 = 0 := by omega
        have hd0 : d = 0 := by rw [← h6]; exact G.d00
        rcases cand_cases n m k d lo hi with ⟨h, g1, _, _⟩ | ⟨h, g1, _, _⟩ | ⟨h, _⟩ | ⟨_, h⟩
        · omega
        · omega
        · have := (hs.2 (by omega)).1; omega
        · omega
      | succ N ih =>
        intro x0 y0 hN h1 h2 h3 h4 h5 h6 h7
        rcases G.pred x0 y0 h1 h2 h3 h4 with ⟨rfl, rfl⟩ | ⟨p1, p2, p3, p4⟩ | ⟨p1, p2⟩ | ⟨p1, p2⟩
        · exact ih 0 0 (by omega) h1 h2 h3 h4 h5 h6 h7
        · -- along an equal line
          have e1 := G.ediag (x0 - 1) (y0 - 1) (by omega) (by omega) (by omega) (by omega) p3
          rw [show x0 - 1 + 1 = x0 by omega, show y0 - 1 + 1 = y0 by omega] at e1
          have e2 := G.cat (x0 - 1) (y0 - 1) (by omega) (by omega) (by omega) (by omega)
          have h8 := ih (x0 - 1) (y0 - 1) (by omega) (by omega) (by omega) (by omega) (by omega) (by omega) (by omega) (by omega)
          by_cases hx : x0 ≤ x
          · exact hx
          · exfalso
            have hxe : x = x0 - 1 := by omega
            have hc0 : 0 ≤ c := by
              rcases hc with hc | hc
              · have := hs.1 (by omega); omega
              · exact hc.1
            refine (hs.2 hc0).2.2 ⟨by omega, by omega, ?_⟩
            rw [hxe, show x0 - 1 - k = y0 - 1 by omega]
            exact p3
        · -- one line more of the one part
          have hdp : 1 ≤ d := by have := G.dlo1 (x0 - 1) y0 (by omega) (by omega) h3 h4; have := G.dlo2 (x0 - 1) y0 (by omega) (by omega) h3 h4; omega
          have hkd : -d < k := by have := G.dlo2 (x0 - 1) y0 (by omega) (by omega) h3 h4; omega
          have e1 := G.eright (x0 - 1) y0 (by omega) (by omega) h3 h4
          rw [show x0 - 1 + 1 = x0 by omega] at e1
          have e2 := G.cat (x0 - 1) y0 (by omega) (by omega) h3 h4
          have h8 := (hlo hkd).cmp (x0 - 1) y0 (by omega) (by omega) h3 h4 (by omega) (by omega) (by omega)
          rcases (hlo hkd).snd with h9 | ⟨g1, g2, g3, g4, g5, g6⟩
          · omega
          · by_cases hn : lo + 1 ≤ n
            · have := cand_lo (m := m) (hi := hi) hkd g1 hn
              have := (hs.2 (by omega)).1
              omega
            · exfalso
              have hln : lo = n := by omega
              rw [hln] at g3 g4 g5
              have a1 := G.cat n (n - (k - 1)) G.n0 (Int.le_refl _) g3 g4
              have a2 := G.exn (n - (k - 1)) g3 g4
              have a3 := G.elo2 x0 y0 h1 h2 h3 h4
              omega
        · -- one line more of the other
          have hdp : 1 ≤ d := by have := G.dlo1 x0 (y0 - 1) h1 h2 (by omega) (by omega); have := G.dlo2 x0 (y0 - 1) h1 h2 (by omega) (by omega); omega
          have hkd : k < d := by have := G.dlo1 x0 (y0 - 1) h1 h2 (by omega) (by omega); omega
          have e1 := G.edown x0 (y0 - 1) h1 h2 (by omega) (by omega)
          rw [show y0 - 1 + 1 = y0 by omega] at e1
          have e2 := G.cat x0 (y0 - 1) h1 h2 (by omega) (by omega)
          have h8 := (hhi hkd).cmp x0 (y0 - 1) h1 h2 (by omega) (by omega) (by omega) (by omega) (by omega)
          rcases (hhi hkd).snd with h9 | ⟨g1, g2, g3, g4, g5, g6⟩
          · omega
          · by_cases hm : hi - k ≤ m
            · rcases cand_hi (n := n) (lo := lo) hkd hm (by omega) with h10 | h10
              · have := (hs.2 (by omega)).1
                omega
              · omega
            · exfalso
              have hlm : hi - (k + 1) = m := by omega
              rw [hlm] at g5
              have a1 := G.cat hi m g1 g2 G.m0 (Int.le_refl _)
              have a2 := G.exm hi g1 g2
              have a3 := G.elo1 x0 y0 h1 h2 h3 h4
              omega
    intro x0 y0 h1 h2 h3 h4
    exact key (x0 + y0).toNat x0 y0 (by omega) h1 h2 h3 h4

/-- On the way of a shortest script there is a point after r edits, whatever r. -/
theorem Geo.mid {n m : Int} {mt : Int → Int → Prop} {D E : Int → Int → Int} (G : Geo n m mt D E) (hE : E n m = 0) {r : Int} (h0 : 0 ≤ r) (hr : r ≤ D n m) :
    ∃ x y, 0 ≤ x ∧ x ≤ n ∧ 0 ≤ y ∧ y ≤ m ∧ D x y + E x y = D n m ∧ D x y = r := by
  have key : ∀ N : Nat, ∀ x y : Int, x + y ≤ N → 0 ≤ x → x ≤ n → 0 ≤ y → y ≤ m → D x y + E x y = D n m → r ≤ D x y → ∃ x y, 0 ≤ x ∧ x ≤ n ∧ 0 ≤ y ∧ y ≤ m ∧ D x y + E x y = D n m ∧ D x y = r := by
    intro N
    induction N with
    | zero =>
      intro x y hN h1 h2 h3 h4 h5 h6
      obtain rfl : x = 0 := by omega
      obtain rfl : y = 0 := by omega
      have := G.d00
      exact ⟨0, 0, h1, h2, h3, h4, h5, by omega⟩
    | succ N ih =>
      intro x y hN h1 h2 h3 h4 h5 h6
      by_cases he : D x y = r
      · exact ⟨x, y, h1, h2, h3, h4, h5, he⟩
      · rcases G.pred x y h1 h2 h3 h4 with ⟨rfl, rfl⟩ | ⟨p1, p2, p3, p4⟩ | ⟨p1, p2⟩ | ⟨p1, p2⟩
        · have := G.d00; omega
        · have e1 := G.ediag (x - 1) (y - 1) (by omega) (by omega) (by omega) (by omega) p3
          rw [show x - 1 + 1 = x by omega, show y - 1 + 1 = y by omega] at e1
          have e2 := G.cat (x - 1) (y - 1) (by omega) (by omega) (by omega) (by omega)
          exact ih (x - 1) (y - 1) (by omega) (by omega) (by omega) (by omega) (by omega) (by omega) (by omega)
        · have e1 := G.eright (x - 1) y (by omega) (by omega) h3 h4
          rw [show x - 1 + 1 = x by omega] at e1
          have e2 := G.cat (x - 1) y (by omega) (by omega) h3 h4
          exact ih (x - 1) y (by omega) (by omega) (by omega) h3 h4 (by omega) (by omega)
        · have e1 := G.edown x (y - 1) h1 h2 (by omega) (by omega)
          rw [show y - 1 + 1 = y by omega] at e1
          have e2 := G.cat x (y - 1) h1 h2 (by omega) (by omega)
          exact ih x (y - 1) (by omega) h1 h2 (by omega) (by omega) (by omega) (by omega)
  have hn := G.n0
  have hm := G.m0
  exact key (n + m).toNat n m (by omega) hn (Int.le_refl _) hm (Int.le_refl _) (by omega) hr

/-- Along a diagonal the edits to the end do not grow. -/
theorem Geo.emonoN {n m : Int} {mt : Int → Int → Prop} {D E : Int → Int → Int} (G : Geo n m mt D E) {k a x : Int} (ha : 0 ≤ a) (hak : 0 ≤ a - k) (hax : a ≤ x) (hx : x ≤ n) (hxk : x - k ≤ m) : E x (x - k) ≤ E a (a - k) := by
  have key : ∀ N : Nat, ∀ x : Int, x = a + N → x ≤ n → x - k ≤ m → E x (x - k) ≤ E a (a - k) := by
    intro N
    induction N with
    | zero => intro x hx _ _; rw [show x = a by omega]; exact Int.le_refl _
    | succ N ih =>
      intro x hx h1 h2
      have h3 := ih (x - 1) (by omega) (by omega) (by omega)
      have h4 := G.emono (x - 1) (x - 1 - k) (by omega) (by omega) (by omega) (by omega)
      rw [show x - 1 + 1 = x by omega, show x - 1 - k + 1 = x - k by omega] at h4
      omega
  exact key (x - a).toNat x (by omega) hx hxk

end Go.Proofs.Qxb6600671a
