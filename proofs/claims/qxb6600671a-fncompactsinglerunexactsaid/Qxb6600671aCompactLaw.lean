/- 'compact', the plain side: the moves of a run, and what a proof about it owes at each of them. No program. -/
namespace Go.Proofs.Qxb6600671a

/-- f with its value at k turned to v. -/
def updB (f : Nat → Bool) (k : Nat) (v : Bool) : Nat → Bool := fun j => if j = k then v else f j

theorem updB_same (f : Nat → Bool) (k : Nat) (v : Bool) : updB f k v k = v := by simp [updB]
theorem updB_other (f : Nat → Bool) {j k : Nat} (v : Bool) (h : j ≠ k) : updB f k v j = f j := by simp [updB, h]

/-- How many of the first k are false. -/
def cntF (f : Nat → Bool) : Nat → Nat
  | 0 => 0
  | k + 1 => cntF f k + (if f k then 0 else 1)

theorem cntF_le (f : Nat → Bool) (k : Nat) : cntF f k ≤ k := by
  induction k with
  | zero => simp [cntF]
  | succ k ih => simp only [cntF]; split <;> omega

theorem cntF_mono (f : Nat → Bool) {i j : Nat} (h : i ≤ j) : cntF f i ≤ cntF f j := by
  induction h with
  | refl => exact Nat.le_refl _
  | step _ ih => simp only [cntF]; omega

theorem cntF_congr {f g : Nat → Bool} {k : Nat} (h : ∀ j, j < k → f j = g j) : cntF f k = cntF g k := by
  induction k with
  | zero => rfl
  | succ k ih => simp only [cntF]; rw [ih (fun j hj => h j (by omega)), h k (by omega)]

/-- No false between i and j. -/
theorem cntF_run {f : Nat → Bool} {i j : Nat} (hij : i ≤ j) (h : ∀ k, i ≤ k → k < j → f k = true) : cntF f j = cntF f i := by
  induction hij with
  | refl => rfl
  | @step m hm ih => simp only [cntF]; rw [ih (fun k h1 h2 => h k h1 (by omega)), h m hm (by omega)]; simp

/-- One value turned: false to true. -/
theorem cntF_upd_true {f : Nat → Bool} {k n : Nat} (hk : k < n) (h : f k = false) : cntF (updB f k true) n + 1 = cntF f n := by
  induction n with
  | zero => omega
  | succ n ih =>
    simp only [cntF]
    by_cases hkn : k = n
    · subst hkn
      rw [updB_same, h, cntF_congr (g := f) (fun j hj => updB_other _ _ (by omega))]; simp
    · rw [updB_other _ _ (by omega : n ≠ k)]
      have := ih (by omega)
      omega

theorem cntF_upd_false {f : Nat → Bool} {k n : Nat} (hk : k < n) (h : f k = true) : cntF (updB f k false) n = cntF f n + 1 := by
  induction n with
  | zero => omega
  | succ n ih =>
    simp only [cntF]
    by_cases hkn : k = n
    · subst hkn
      rw [updB_same, h, cntF_congr (g := f) (fun j hj => updB_other _ _ (by omega))]; simp
    · rw [updB_other _ _ (by omega : n ≠ k)]
      have := ih (by omega)
      omega

theorem cntF_upd_past {f : Nat → Bool} {k n : Nat} {v : Bool} (hk : n ≤ k) : cntF (updB f k v) n = cntF f n :=
  cntF_congr (fun j hj => updB_other _ _ (by omega))

/-- The run [s, e) of changed lines stands among n lines, K of which are unchanged: nothing changed right before it, nothing right behind it. -/
structure Runs (n K : Nat) (ch : Nat → Bool) (s e : Nat) : Prop where
  lt : s < e
  le : e ≤ n
  all : ∀ j, s ≤ j → j < e → ch j = true
  left : s = 0 ∨ ch (s - 1) = false
  right : e = n ∨ ch e = false
  cnt : cntF ch n = K

/-- The same without 'nothing changed right before it'. -/
structure RunsB (n K : Nat) (ch : Nat → Bool) (s e : Nat) : Prop where
  lt : s < e
  le : e ≤ n
  all : ∀ j, s ≤ j → j < e → ch j = true
  right : e = n ∨ ch e = false
  cnt : cntF ch n = K

theorem Runs.toB {n K : Nat} {ch : Nat → Bool} {s e : Nat} (h : Runs n K ch s e) : RunsB n K ch s e := ⟨h.lt, h.le, h.all, h.right, h.cnt⟩

/-- What 'compact' turns as a run moves one line up. -/
def moveUp (ch : Nat → Bool) (s e : Nat) : Nat → Bool := updB (updB ch (s - 1) true) (e - 1) false
/-- .. and one line down. -/
def moveDown (ch : Nat → Bool) (s e : Nat) : Nat → Bool := updB (updB ch s false) e true

theorem moveUp_cnt {n K : Nat} {ch : Nat → Bool} {s e : Nat} (h : RunsB n K ch s e) (hs : 0 < s) (hc : ch (s - 1) = false) : cntF (moveUp ch s e) n = K := by
  have h1 := cntF_upd_true (f := ch) (k := s - 1) (n := n) (by have := h.lt; have := h.le; omega) hc
  have h2 : updB ch (s - 1) true (e - 1) = true := by
    rw [updB_other _ _ (by have := h.lt; omega)]
    exact h.all _ (by have := h.lt; omega) (by have := h.lt; omega)
  have h3 := cntF_upd_false (f := updB ch (s - 1) true) (k := e - 1) (n := n) (by have := h.lt; have := h.le; omega) h2
  have h4 := h.cnt
  unfold moveUp
  omega

theorem moveUp_all {n K : Nat} {ch : Nat → Bool} {s e : Nat} (h : RunsB n K ch s e) {j : Nat} (h1 : s - 1 ≤ j) (h2 : j < e - 1) : moveUp ch s e j = true := by
  unfold moveUp
  rw [updB_other _ _ (by omega)]
  by_cases hj : j = s - 1
  · rw [hj, updB_same]
  · rw [updB_other _ _ hj]
    exact h.all _ (by omega) (by omega)

/-- A run that has moved up by one and taken in what it met. -/
theorem Runs.up {n K : Nat} {ch : Nat → Bool} {s e s' : Nat} (h : Runs n K ch s e) (hs : 0 < s) (hs' : s' ≤ s - 1)
    (hall : ∀ j, s' ≤ j → j < s - 1 → moveUp ch s e j = true) (hl : s' = 0 ∨ moveUp ch s e (s' - 1) = false) : Runs n K (moveUp ch s e) s' (e - 1) := by
  have hc : ch (s - 1) = false := by rcases h.left with h' | h'; omega; exact h'
  refine ⟨by have := h.lt; omega, by have := h.le; omega, fun j h1 h2 => ?_, hl, .inr (by simp [moveUp, updB]), moveUp_cnt h.toB hs hc⟩
  by_cases hj : j < s - 1
  · exact hall j h1 hj
  · exact moveUp_all h.toB (by omega) h2

theorem Runs.up_cnt {n K : Nat} {ch : Nat → Bool} {s e s' : Nat} (h : Runs n K ch s e) (hs : 0 < s) (hs' : s' ≤ s - 1)
    (hall : ∀ j, s' ≤ j → j < s - 1 → moveUp ch s e j = true) : cntF (moveUp ch s e) s' + 1 = cntF ch s := by
  have hc : ch (s - 1) = false := by rcases h.left with h' | h'; omega; exact h'
  have h1 : cntF (moveUp ch s e) (s - 1) = cntF (moveUp ch s e) s' := cntF_run hs' hall
  have h2 : cntF (moveUp ch s e) (s - 1) = cntF ch (s - 1) := by
    unfold moveUp
    rw [cntF_upd_past (by have := h.lt; omega), cntF_upd_past (Nat.le_refl _)]
  have h3 : cntF ch s = cntF ch (s - 1) + 1 := by
    obtain ⟨t, rfl⟩ : ∃ t, s = t + 1 := ⟨s - 1, by omega⟩
    simp only [Nat.add_sub_cancel] at hc ⊢
    simp [cntF, hc]
  omega

theorem moveDown_at {ch : Nat → Bool} {s e : Nat} (h : s < e) : moveDown ch s e s = false := by
  unfold moveDown
  rw [updB_other _ _ (by omega), updB_same]

/-- A run that has moved down by one and taken in what it met. -/
theorem Runs.down {n K : Nat} {ch : Nat → Bool} {s e e' : Nat} (h : Runs n K ch s e) (he : e < n) (h1 : e + 1 ≤ e') (h2 : e' ≤ n)
    (hall : ∀ j, e + 1 ≤ j → j < e' → moveDown ch s e j = true) (hr : e' = n ∨ moveDown ch s e e' = false) : Runs n K (moveDown ch s e) (s + 1) e' := by
  have hlt := h.lt
  have hc : ch e = false := by rcases h.right with h' | h'; omega; exact h'
  refine ⟨by omega, h2, fun j h3 h4 => ?_, .inr (by simpa using moveDown_at hlt), hr, ?_⟩
  · by_cases hj : e + 1 ≤ j
    · exact hall j hj h4
    · unfold moveDown
      by_cases hje : j = e
      · rw [hje, updB_same]
      · rw [updB_other _ _ hje, updB_other _ _ (by omega)]
        exact h.all j (by omega) (by omega)
  · have a1 := cntF_upd_false (f := ch) (k := s) (n := n) (by omega) (h.all s (Nat.le_refl _) hlt)
    have a2 : updB ch s false e = false := by rw [updB_other _ _ (by omega)]; exact hc
    have a3 := cntF_upd_true (f := updB ch s false) (k := e) (n := n) he a2
    have a4 := h.cnt
    unfold moveDown
    omega

theorem Runs.down_cnt {n K : Nat} {ch : Nat → Bool} {s e : Nat} (h : Runs n K ch s e) : cntF (moveDown ch s e) (s + 1) = cntF ch s + 1 := by
  have h1 := moveDown_at (ch := ch) h.lt
  simp only [cntF, h1]
  have h2 : cntF (moveDown ch s e) s = cntF ch s := by
    unfold moveDown
    rw [cntF_upd_past (by have := h.lt; omega), cntF_upd_past (Nat.le_refl _)]
  simp [h2]

theorem RunsB.back {n K : Nat} {ch : Nat → Bool} {s e : Nat} (h : RunsB n K ch s e) (hs : 0 < s) (hc : ch (s - 1) = false) : RunsB n K (moveUp ch s e) (s - 1) (e - 1) :=
  ⟨by have := h.lt; omega, by have := h.le; omega, fun j h1 h2 => moveUp_all h h1 h2, .inr (by simp [moveUp, updB]), moveUp_cnt h hs hc⟩

theorem RunsB.back_cnt {n K : Nat} {ch : Nat → Bool} {s e : Nat} (h : RunsB n K ch s e) (hs : 0 < s) (hc : ch (s - 1) = false) : cntF (moveUp ch s e) (s - 1) + 1 = cntF ch s := by
  have h2 : cntF (moveUp ch s e) (s - 1) = cntF ch (s - 1) := by
    unfold moveUp
    rw [cntF_upd_past (by have := h.lt; omega), cntF_upd_past (Nat.le_refl _)]
  have h3 : cntF ch s = cntF ch (s - 1) + 1 := by
    obtain ⟨t, rfl⟩ : ∃ t, s = t + 1 := ⟨s - 1, by omega⟩
    simp only [Nat.add_sub_cancel] at hc ⊢
    simp [cntF, hc]
  omega

theorem Runs.cnt_le {n K : Nat} {ch : Nat → Bool} {s e : Nat} (h : RunsB n K ch s e) : cntF ch s ≤ K := by
  have h1 := cntF_mono ch (i := s) (j := n) (by have := h.lt; have := h.le; omega)
  have h2 := h.cnt
  omega

/-- WHAT A PROOF ABOUT 'compact' OWES. 'Out ch i': the lines before i are done with. 'Mid ch s e': the run [s, e) moves. 'Dn ch s e b': it moves down, and last stood beside a run of the other text where its end was b (-1: nowhere). 'Bk ch s e b': it goes back up to b. -/
structure CVC (num : Nat → Int) (n K : Nat) (bo : Nat → Bool) (ch0 : Nat → Bool) (Out : (Nat → Bool) → Nat → Prop) (Mid : (Nat → Bool) → Nat → Nat → Prop)
    (Dn : (Nat → Bool) → Nat → Nat → Int → Prop) (Bk : (Nat → Bool) → Nat → Nat → Int → Prop) : Prop where
  init : Out ch0 0
  skip : ∀ ch i, Out ch i → i < n → ch i = false → Out ch (i + 1)
  enter : ∀ ch i e, Out ch i → Runs n K ch i e → Mid ch i e
  up : ∀ ch s e s', Mid ch s e → Runs n K ch s e → 0 < s → num (s - 1) = num (e - 1) → s' ≤ s - 1 → Runs n K (moveUp ch s e) s' (e - 1) → Mid (moveUp ch s e) s' (e - 1)
  turn : ∀ ch s e, Mid ch s e → Runs n K ch s e → (s = 0 ∨ num (s - 1) ≠ num (e - 1)) → Dn ch s e (if bo (cntF ch s) then (e : Int) else -1)
  down : ∀ ch s e e' b, Dn ch s e b → Runs n K ch s e → e < n → num s = num e → e + 1 ≤ e' → Runs n K (moveDown ch s e) (s + 1) e' → Dn (moveDown ch s e) (s + 1) e' (if bo (cntF ch s + 1) then (e' : Int) else b)
  again : ∀ ch s e b, Dn ch s e b → Runs n K ch s e → Mid ch s e
  stop : ∀ ch s e b, Dn ch s e b → Runs n K ch s e → (e = n ∨ num s ≠ num e) → Bk ch s e b
  back : ∀ ch s e b, Bk ch s e b → RunsB n K ch s e → 0 ≤ b → b < (e : Int) → 0 < s → ch (s - 1) = false ∧ Bk (moveUp ch s e) (s - 1) (e - 1) b
  out : ∀ ch s e b, Bk ch s e b → RunsB n K ch s e → (b < 0 ∨ (e : Int) ≤ b) → Out ch e

end Go.Proofs.Qxb6600671a
