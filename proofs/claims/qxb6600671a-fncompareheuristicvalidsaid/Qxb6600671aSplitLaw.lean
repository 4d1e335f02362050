/- 'split', plain: what holds of the two rows of diagonals from stage to stage, and of the point that comes out. No program. -/
import Derived.Test.Qxb6600671aMeet
namespace Go.Proofs.Qxb6600671a

/-- Behind stage d, the row of the search from the start. -/
def FGo (f g : Nat → Int) (n m off : Nat) (d : Int) (F : Nat → Int) : Prop :=
  ∀ k, -d ≤ k → k ≤ d → (k - d) % 2 = 0 → Pt n m (Dd f g) (Ee f g n m) d k (F ((off : Int) + k).toNat)

/-- .. and that of the search from the end. -/
def BGo (f g : Nat → Int) (n m off : Nat) (d : Int) (G : Nat → Int) : Prop := FGo (rev n f) (rev m g) n m off d G

/-- The searches overlap at diagonal k, asked in the search from the start. -/
def FMeet (n m off : Nat) (d k : Int) (F G : Nat → Int) : Prop :=
  0 ≤ F ((off : Int) + k).toNat ∧ -d < (n : Int) - m - k ∧ (n : Int) - m - k < d ∧ 0 ≤ G ((off : Int) + ((n : Int) - m - k)).toNat ∧ (n : Int) ≤ F ((off : Int) + k).toNat + G ((off : Int) + ((n : Int) - m - k)).toNat

/-- .. in the search from the end. -/
def BMeet (n m off : Nat) (d k : Int) (F G : Nat → Int) : Prop :=
  0 ≤ G ((off : Int) + k).toNat ∧ -d ≤ (n : Int) - m - k ∧ (n : Int) - m - k ≤ d ∧ 0 ≤ F ((off : Int) + ((n : Int) - m - k)).toNat ∧ (n : Int) ≤ G ((off : Int) + k).toNat + F ((off : Int) + ((n : Int) - m - k)).toNat

/-- A point of the part that is neither its start nor its end. -/
structure SplitOK (n m : Nat) (x y : Int) : Prop where
  x0 : 0 ≤ x
  xn : x ≤ n
  y0 : 0 ≤ y
  ym : y ≤ m
  ns : ¬ (x = 0 ∧ y = 0)
  ne : ¬ (x = n ∧ y = m)

/-- It lies on a shortest script. -/
def Opt (f g : Nat → Int) (n m : Nat) (x y : Int) : Prop := Dd f g x y + Ee f g n m x y = Dd f g n m

theorem opt_ok {f g : Nat → Int} {n m : Nat} {x y : Int} (h1 : 0 ≤ x) (h2 : x ≤ n) (h3 : 0 ≤ y) (h4 : y ≤ m) (hD : 1 ≤ Dd f g x y) (hE : 1 ≤ Ee f g n m x y) : SplitOK n m x y := by
  refine ⟨h1, h2, h3, h4, ?_, ?_⟩
  · rintro ⟨rfl, rfl⟩
    have := (geo f g n m).d00
    omega
  · rintro ⟨rfl, rfl⟩
    have := Ee_end f g n m
    omega

theorem fmeet_ok {f g : Nat → Int} {n m off : Nat} {d k : Int} {F G : Nat → Int} (h2 : 2 ≤ Dd f g n m) (hT : 2 * d - 1 ≤ Dd f g n m) (hodd : ((n : Int) - m) % 2 ≠ 0) (hpar : (k - d) % 2 = 0)
    (hP : Pt n m (Dd f g) (Ee f g n m) d k (F ((off : Int) + k).toNat)) (hB : BGo f g n m off (d - 1) G) (hM : FMeet n m off d k F G) :
    SplitOK n m (F ((off : Int) + k).toNat) (F ((off : Int) + k).toNat - k) ∧ Opt f g n m (F ((off : Int) + k).toNat) (F ((off : Int) + k).toNat - k) := by
  obtain ⟨m1, m2, m3, m4, m5⟩ := hM
  have q := hB ((n : Int) - m - k) (by omega) (by omega) (by omega)
  obtain ⟨r1, r2, r3, r4, r5⟩ := meet (geo f g n m) (fun x y h1 h2 h3 h4 => rev_D f g n m h1 h2 h3 h4) hP m1 q m4 m5
  have c := (geo f g n m).cat _ _ m1 r1 r2 r3
  refine ⟨opt_ok (f := f) (g := g) m1 r1 r2 r3 (by omega) (by omega), ?_⟩
  unfold Opt
  omega

theorem bmeet_ok {f g : Nat → Int} {n m off : Nat} {d k : Int} {F G : Nat → Int} (h2 : 2 ≤ Dd f g n m) (hT : 2 * d - 1 ≤ Dd f g n m) (heven : ((n : Int) - m) % 2 = 0) (hpar : (k - d) % 2 = 0)
    (hP : Pt n m (Dd (rev n f) (rev m g)) (Ee (rev n f) (rev m g) n m) d k (G ((off : Int) + k).toNat)) (hF : FGo f g n m off d F) (hM : BMeet n m off d k F G) :
    SplitOK n m ((n : Int) - G ((off : Int) + k).toNat) ((m : Int) - (G ((off : Int) + k).toNat - k)) ∧ Opt f g n m ((n : Int) - G ((off : Int) + k).toNat) ((m : Int) - (G ((off : Int) + k).toNat - k)) := by
  obtain ⟨m1, m2, m3, m4, m5⟩ := hM
  have q := hF ((n : Int) - m - k) (by omega) (by omega) (by omega)
  have hrel : ∀ x y : Int, 0 ≤ x → x ≤ n → 0 ≤ y → y ≤ m → Dd f g x y = Ee (rev n f) (rev m g) n m ((n : Int) - x) ((m : Int) - y) := by
    intro x y h1 h2 h3 h4
    rw [rev_E f g n m (by omega) (by omega) (by omega) (by omega), show (n : Int) - (n - x) = x by omega, show (m : Int) - (m - y) = y by omega]
  obtain ⟨r1, r2, r3, r4, r5⟩ := meet (geo (rev n f) (rev m g) n m) hrel hP m1 q m4 m5
  generalize G ((off : Int) + k).toNat = x at *
  rw [rev_D f g n m m1 r1 r2 r3] at r4
  rw [rev_E f g n m m1 r1 r2 r3] at r5
  have c := (geo f g n m).cat ((n : Int) - x) ((m : Int) - (x - k)) (by omega) (by omega) (by omega) (by omega)
  have par := (geo f g n m).par n m (by omega) (Int.le_refl _) (by omega) (Int.le_refl _)
  refine ⟨opt_ok (f := f) (g := g) (by omega) (by omega) (by omega) (by omega) (by omega) (by omega), ?_⟩
  unfold Opt
  omega

theorem fno_meet {f g : Nat → Int} {n m off : Nat} {d : Int} {F G : Nat → Int} (hd : 0 ≤ d) (hT : 2 * d - 1 ≤ Dd f g n m) (hodd : ((n : Int) - m) % 2 ≠ 0) (hF : FGo f g n m off d F) (hB : BGo f g n m off (d - 1) G)
    (hno : ∀ k, -d ≤ k → k ≤ d → (k - d) % 2 = 0 → ¬ FMeet n m off d k F G) : 2 * d + 1 ≤ Dd f g n m := by
  have par := (geo f g n m).par n m (by omega) (Int.le_refl _) (by omega) (Int.le_refl _)
  have lo1 := (geo f g n m).dlo1 n m (by omega) (Int.le_refl _) (by omega) (Int.le_refl _)
  have lo2 := (geo f g n m).dlo2 n m (by omega) (Int.le_refl _) (by omega) (Int.le_refl _)
  by_cases h : Dd f g n m = 2 * d - 1
  · exfalso
    obtain ⟨k, a1, a2, a3, a4, a5, a6, a7, a8, a9⟩ := must_meet (geo f g n m) (geo (rev n f) (rev m g) n m) (Ee_end f g n m) (fun x y h1 h2 h3 h4 => rev_D f g n m h1 h2 h3 h4) (fun x y h1 h2 h3 h4 => rev_E f g n m h1 h2 h3 h4) (rev_T f g n m)
      (d1 := d) (d2 := d - 1) hd (by omega) (by omega) (F := fun k => F ((off : Int) + k).toNat) (B := fun k => G ((off : Int) + k).toNat) hF hB
    exact hno k a1 a2 a3 ⟨a7, by omega, by omega, a8, a9⟩
  · omega

theorem bno_meet {f g : Nat → Int} {n m off : Nat} {d : Int} {F G : Nat → Int} (hd : 0 ≤ d) (hT : 2 * d - 1 ≤ Dd f g n m) (heven : ((n : Int) - m) % 2 = 0) (hF : FGo f g n m off d F) (hB : BGo f g n m off d G)
    (hno : ∀ k, -d ≤ k → k ≤ d → (k - d) % 2 = 0 → ¬ BMeet n m off d k F G) : 2 * d + 1 ≤ Dd f g n m := by
  have par := (geo f g n m).par n m (by omega) (Int.le_refl _) (by omega) (Int.le_refl _)
  by_cases h : Dd f g n m = 2 * d
  · exfalso
    obtain ⟨k, a1, a2, a3, a4, a5, a6, a7, a8, a9⟩ := must_meet (geo f g n m) (geo (rev n f) (rev m g) n m) (Ee_end f g n m) (fun x y h1 h2 h3 h4 => rev_D f g n m h1 h2 h3 h4) (fun x y h1 h2 h3 h4 => rev_E f g n m h1 h2 h3 h4) (rev_T f g n m)
      (d1 := d) (d2 := d) hd hd (by omega) (F := fun k => F ((off : Int) + k).toNat) (B := fun k => G ((off : Int) + k).toNat) hF hB
    refine hno ((n : Int) - m - k) a4 a5 a6 ⟨a8, ?_⟩
    rw [show (n : Int) - m - (n - m - k) = k by omega]
    exact ⟨a1, a2, a7, by omega⟩
  · omega

theorem upd_ne {V : Nat → Int} {i j : Nat} {x : Int} (h : j ≠ i) : (fun t => if t = i then x else V t) j = V j := by simp [h]

/-- 'advance' sets out inside the part. -/
theorem cand_in {f g : Nat → Int} {n m off : Nat} {d k : Int} {F : Nat → Int} (hold : FGo f g n m off (d - 1) F) (hk1 : -d ≤ k) (hk2 : k ≤ d) (hpar : (k - d) % 2 = 0) (hoff : d + 1 ≤ off)
    (h0 : 0 ≤ cand n m k d (F (((off : Int) + k).toNat - 1)) (F ((off : Int) + k + 1).toNat)) : 0 ≤ cand n m k d (F (((off : Int) + k).toNat - 1)) (F ((off : Int) + k + 1).toNat) - k := by
  rcases cand_cases n m k d (F (((off : Int) + k).toNat - 1)) (F ((off : Int) + k + 1).toNat) with ⟨h, h1, h2, h3⟩ | ⟨h, h1, h2, h3⟩ | ⟨h, h1⟩ | ⟨h, _⟩
  · rw [h] at h0 ⊢
    rcases (hold (k + 1) (by omega) (by omega) (by omega)).snd with s | ⟨_, _, s, _⟩
    · rw [show (off : Int) + (k + 1) = off + k + 1 by omega] at s; omega
    · rw [show (off : Int) + (k + 1) = off + k + 1 by omega] at s; omega
  · rw [h] at h0 ⊢
    rcases (hold (k - 1) (by omega) (by omega) (by omega)).snd with s | ⟨_, _, s, _⟩
    · rw [show ((off : Int) + (k - 1)).toNat = ((off : Int) + k).toNat - 1 by omega] at s; omega
    · rw [show ((off : Int) + (k - 1)).toNat = ((off : Int) + k).toNat - 1 by omega] at s; omega
  · rw [h]; omega
  · omega

theorem old_lo {f g : Nat → Int} {n m off : Nat} {d k : Int} {F : Nat → Int} (hold : FGo f g n m off (d - 1) F) (hk2 : k ≤ d) (hpar : (k - d) % 2 = 0) (hoff : d + 1 ≤ off) (h : -d < k) :
    Pt n m (Dd f g) (Ee f g n m) (d - 1) (k - 1) (F (((off : Int) + k).toNat - 1)) := by
  have := hold (k - 1) (by omega) (by omega) (by omega)
  rwa [show ((off : Int) + (k - 1)).toNat = ((off : Int) + k).toNat - 1 by omega] at this

theorem old_hi {f g : Nat → Int} {n m off : Nat} {d k : Int} {F : Nat → Int} (hold : FGo f g n m off (d - 1) F) (hk1 : -d ≤ k) (hpar : (k - d) % 2 = 0) (h : k < d) :
    Pt n m (Dd f g) (Ee f g n m) (d - 1) (k + 1) (F ((off : Int) + k + 1).toNat) := by
  have := hold (k + 1) (by omega) (by omega) (by omega)
  rwa [show (off : Int) + (k + 1) = off + k + 1 by omega] at this

/-- One diagonal more. -/
theorem new_pt {f g : Nat → Int} {n m off : Nat} {d k x : Int} {F : Nat → Int} (hold : FGo f g n m off (d - 1) F) (hd : 0 ≤ d) (hk1 : -d ≤ k) (hk2 : k ≤ d) (hpar : (k - d) % 2 = 0) (hoff : d + 1 ≤ off)
    (hs : Snake n m k (fun t u => f t.toNat = g u.toNat) (cand n m k d (F (((off : Int) + k).toNat - 1)) (F ((off : Int) + k + 1).toNat)) x) : Pt n m (Dd f g) (Ee f g n m) d k x :=
  adv_pt (geo f g n m) hd hk1 hk2 (fun h => old_lo hold hk2 hpar hoff h) (fun h => old_hi hold hk1 hpar h) hs

/-- A store on a diagonal of the other parity leaves the stage before as it was. -/
theorem FGo.set {f g : Nat → Int} {n m off : Nat} {d k x : Int} {F F' : Nat → Int} (hold : FGo f g n m off (d - 1) F) (hk1 : -d ≤ k) (hpar : (k - d) % 2 = 0) (hoff : d + 1 ≤ off)
    (hF' : ∀ j, F' j = if j = ((off : Int) + k).toNat then x else F j) : FGo f g n m off (d - 1) F' := by
  intro j h1 h2 h3
  have := hold j h1 h2 h3
  rw [hF', if_neg (by omega)]
  exact this

theorem Snake.congr {n m k : Int} {mt mt' : Int → Int → Prop} {c x : Int} (h : Snake n m k mt c x) (hck : 0 ≤ c → 0 ≤ c - k) (he : ∀ t, 0 ≤ t → t < n → 0 ≤ t - k → t - k < m → (mt t (t - k) ↔ mt' t (t - k))) : Snake n m k mt' c x := by
  refine ⟨h.1, fun hc => ?_⟩
  obtain ⟨h1, h2, h3⟩ := h.2 hc
  have h4 := hck hc
  refine ⟨h1, fun t t1 t2 => ?_, fun ⟨g1, g2, g3⟩ => h3 ⟨g1, g2, (he x (by omega) g1 (by omega) g2).2 g3⟩⟩
  obtain ⟨g1, g2, g3⟩ := h2 t t1 t2
  exact ⟨g1, g2, (he t (by omega) g1 (by omega) g2).1 g3⟩

/-- In the loop over the diagonals from the highest down: those above k are done. -/
structure FPart (f g : Nat → Int) (n m off : Nat) (od : Bool) (d k : Int) (F G : Nat → Int) : Prop where
  old : FGo f g n m off (d - 1) F
  done : ∀ j, k < j → j ≤ d → (j - d) % 2 = 0 → Pt n m (Dd f g) (Ee f g n m) d j (F ((off : Int) + j).toNat) ∧ (od = true → ¬ FMeet n m off d j F G)

/-- .. and from the lowest up, in the search from the end. -/
structure BPart (f g : Nat → Int) (n m off : Nat) (od : Bool) (d k : Int) (F G : Nat → Int) : Prop where
  old : BGo f g n m off (d - 1) G
  done : ∀ j, -d ≤ j → j < k → (j - d) % 2 = 0 → Pt n m (Dd (rev n f) (rev m g)) (Ee (rev n f) (rev m g) n m) d j (G ((off : Int) + j).toNat) ∧ (od = false → ¬ BMeet n m off d j F G)

theorem FPart.step {f g : Nat → Int} {n m off : Nat} {od : Bool} {d k x : Int} {F F' G : Nat → Int} (h : FPart f g n m off od d k F G) (hk1 : -d ≤ k) (hk2 : k ≤ d) (hpar : (k - d) % 2 = 0) (hoff : d + 1 ≤ off)
    (hF' : ∀ j, F' j = if j = ((off : Int) + k).toNat then x else F j) (hP : Pt n m (Dd f g) (Ee f g n m) d k x) (hno : od = true → ¬ FMeet n m off d k F' G) : FPart f g n m off od d (k - 2) F' G := by
  refine ⟨h.old.set hk1 hpar hoff hF', fun j h1 h2 h3 => ?_⟩
  by_cases hj : j = k
  · subst hj
    exact ⟨by rw [hF', if_pos rfl]; exact hP, hno⟩
  · obtain ⟨p1, p2⟩ := h.done j (by omega) h2 h3
    have he : F' ((off : Int) + j).toNat = F ((off : Int) + j).toNat := by rw [hF', if_neg (by omega)]
    refine ⟨by rw [he]; exact p1, fun ho hm => p2 ho ?_⟩
    unfold FMeet at hm ⊢
    rw [he] at hm
    exact hm

theorem BPart.step {f g : Nat → Int} {n m off : Nat} {od : Bool} {d k x : Int} {F G G' : Nat → Int} (h : BPart f g n m off od d k F G) (hk1 : -d ≤ k) (hk2 : k ≤ d) (hpar : (k - d) % 2 = 0) (hoff : d + 1 ≤ off)
    (hG' : ∀ j, G' j = if j = ((off : Int) + k).toNat then x else G j) (hP : Pt n m (Dd (rev n f) (rev m g)) (Ee (rev n f) (rev m g) n m) d k x) (hno : od = false → ¬ BMeet n m off d k F G') : BPart f g n m off od d (k + 2) F G' := by
  refine ⟨FGo.set h.old hk1 hpar hoff hG', fun j h1 h2 h3 => ?_⟩
  by_cases hj : j = k
  · subst hj
    exact ⟨by rw [hG', if_pos rfl]; exact hP, hno⟩
  · obtain ⟨p1, p2⟩ := h.done j h1 (by omega) h3
    have he : G' ((off : Int) + j).toNat = G ((off : Int) + j).toNat := by rw [hG', if_neg (by omega)]
    refine ⟨by rw [he]; exact p1, fun ho hm => p2 ho ?_⟩
    unfold BMeet at hm ⊢
    rw [he] at hm
    exact hm

end Go.Proofs.Qxb6600671a
