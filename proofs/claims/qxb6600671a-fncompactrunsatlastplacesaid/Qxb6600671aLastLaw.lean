/- 'compact' with no changed line in the other text: each run that it leaves stands at the last place it can take. Plain. -/
import Derived.Test.Qxb6600671aCompactLaw
namespace Go.Proofs.Qxb6600671a

/-- Of the runs that end at i or before, none can slide one line further down. -/
def Lst (num : Nat → Int) (n : Nat) (ch : Nat → Bool) (i : Nat) : Prop :=
  ∀ s e, s < e → e < n → e ≤ i → (s = 0 ∨ ch (s - 1) = false) → (∀ j, s ≤ j → j < e → ch j = true) → ch e = false → num s ≠ num e

theorem Lst.skip {num : Nat → Int} {n : Nat} {ch : Nat → Bool} {i : Nat} (h : Lst num n ch i) (hc : ch i = false) : Lst num n ch (i + 1) := by
  intro s e hse hen hei hl ha hr
  by_cases he : e = i + 1
  · have := ha i (by omega) (by omega)
    rw [hc] at this; cases this
  · exact h s e hse hen (by omega) hl ha hr

/-- Runs before k are the same in two markings that agree up to there. -/
theorem Lst.agree {num : Nat → Int} {n : Nat} {ch ch' : Nat → Bool} {i k : Nat} (h : Lst num n ch i) (hk : k ≤ i) (hag : ∀ j, j < k → ch' j = ch j)
    (hend : ∀ s e, s < e → e ≤ i → (∀ j, s ≤ j → j < e → ch' j = true) → ch' e = false → e < k) (i' : Nat) (hi' : i' ≤ i) : Lst num n ch' i' := by
  intro s e hse hen hei hl ha hr
  have hek := hend s e hse (by omega) ha hr
  refine h s e hse hen (by omega) ?_ (fun j h1 h2 => by rw [← hag j (by omega)]; exact ha j h1 h2) (by rw [← hag e hek]; exact hr)
  rcases hl with hl | hl
  · exact .inl hl
  · exact .inr (by rw [← hag (s - 1) (by omega)]; exact hl)

theorem last_up {num : Nat → Int} {n K : Nat} {ch : Nat → Bool} {s e s' : Nat} (h : Lst num n ch s) (hR : Runs n K ch s e) (hs : s' ≤ s - 1) (hR' : Runs n K (moveUp ch s e) s' (e - 1)) :
    Lst num n (moveUp ch s e) s' := by
  intro s2 e2 hse hen hei hl ha hr
  have hlt := hR.lt
  have hne : e2 ≠ s' := by
    rintro rfl
    rw [hR'.all e2 (Nat.le_refl _) hR'.lt] at hr; cases hr
  have hag : ∀ j, j < s - 1 → moveUp ch s e j = ch j := fun j hj => by
    unfold moveUp; rw [updB_other _ _ (by omega), updB_other _ _ (by omega)]
  refine h s2 e2 hse hen (by omega) ?_ (fun j h1 h2 => by rw [← hag j (by omega)]; exact ha j h1 h2) (by rw [← hag e2 (by omega)]; exact hr)
  rcases hl with hl | hl
  · exact .inl hl
  · exact .inr (by rw [← hag (s2 - 1) (by omega)]; exact hl)

theorem last_down {num : Nat → Int} {n K : Nat} {ch : Nat → Bool} {s e e' : Nat} (h : Lst num n ch s) (hR : Runs n K ch s e) (hR' : Runs n K (moveDown ch s e) (s + 1) e') :
    Lst num n (moveDown ch s e) (s + 1) := by
  intro s2 e2 hse hen hei hl ha hr
  have hlt := hR.lt
  have hag : ∀ j, j < s → moveDown ch s e j = ch j := fun j hj => by
    unfold moveDown; rw [updB_other _ _ (by omega), updB_other _ _ (by omega)]
  have hne : e2 ≠ s + 1 := by
    rintro rfl
    rw [hR'.all (s + 1) (Nat.le_refl _) hR'.lt] at hr; cases hr
  have hne2 : e2 ≠ s := by
    rintro rfl
    have h1 := ha (e2 - 1) (by omega) (by omega)
    rw [hag _ (by omega)] at h1
    rcases hR.left with h2 | h2
    · omega
    · rw [h1] at h2; cases h2
  refine h s2 e2 hse hen (by omega) ?_ (fun j h1 h2 => by rw [← hag j (by omega)]; exact ha j h1 h2) (by rw [← hag e2 (by omega)]; exact hr)
  rcases hl with hl | hl
  · exact .inl hl
  · exact .inr (by rw [← hag (s2 - 1) (by omega)]; exact hl)

/-- ALL THAT IS OWED, where the other text has no changed line. -/
theorem last_vc (num : Nat → Int) (n K : Nat) (bo : Nat → Bool) (hbo : ∀ u, u ≤ K → bo u = false) (ch0 : Nat → Bool) :
    CVC num n K bo ch0 (fun ch i => Lst num n ch i) (fun ch s _ => Lst num n ch s) (fun ch s _ b => Lst num n ch s ∧ b < 0)
      (fun ch s e b => b < 0 ∧ Lst num n ch s ∧ (e = n ∨ num s ≠ num e) ∧ (s = 0 ∨ ch (s - 1) = false)) where
  init := fun s e hse _ hei _ _ _ => by omega
  skip := fun ch i h _ hc => h.skip hc
  enter := fun ch i e h _ => h
  up := fun ch s e s' h hR _ _ hs' hR' => last_up h hR hs' hR'
  turn := fun ch s e h hR _ => ⟨h, by rw [hbo _ (Runs.cnt_le hR.toB)]; simp⟩
  down := fun ch s e e' b h hR _ _ _ hR' => by
    refine ⟨last_down h.1 hR hR', ?_⟩
    have h1 := Runs.cnt_le hR'.toB
    rw [hR.down_cnt] at h1
    rw [hbo _ h1]
    simpa using h.2
  again := fun ch s e b h _ => h.1
  stop := fun ch s e b h hR hst => ⟨h.2, h.1, hst, hR.left⟩
  back := fun ch s e b h _ h0 _ _ => by omega
  out := fun ch s e b h hR _ => by
    intro s2 e2 hse hen hei hl ha hr
    have hlt := hR.lt
    by_cases he2 : e2 ≤ s
    · exact h.2.1 s2 e2 hse hen he2 hl ha hr
    · have hee : e2 = e := by
        by_cases h1 : e2 < e
        · rw [hR.all e2 (by omega) h1] at hr; cases hr
        · omega
      subst hee
      have hss : s2 = s := by
        by_cases h1 : s2 < s
        · rcases h.2.2.2 with h2 | h2
          · omega
          · rw [ha (s - 1) (by omega) (by omega)] at h2; cases h2
        · by_cases h3 : s < s2
          · rcases hl with h4 | h4
            · omega
            · rw [hR.all (s2 - 1) (by omega) (by omega)] at h4; cases h4
          · omega
      subst hss
      rcases h.2.2.1 with h5 | h5
      · omega
      · exact h5

end Go.Proofs.Qxb6600671a
