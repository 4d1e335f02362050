/- certifyFits. -/
import Derived.Test.Qxb6601548aSmall2
namespace Go.Proofs.Qxb6601548a
open Go.RowKit

/-- What the first loop knows of element i. -/
def WtOk (wt : Nat → Nat) (fx : Nat → Int) (i : Nat) : Prop := wt i < INF ∧ 0 ≤ fx i ∧ fx i ≤ 2
/-- What the second loop knows of set s. -/
def WhOk (e vl : Nat) (wh : Nat → Int) (val : Nat → Nat) (s : Nat) : Prop := 0 ≤ wh (e + s) → (wh (e + s)).toNat < vl ∧ Fin (val (wh (e + s)).toNat)

theorem prevOf_le {f : Nat → Int} {n : Nat} (h : ∀ s, s < n → prevOf f s ≤ f s) : ∀ s, s < n → 0 ≤ f s ∧ 0 ≤ prevOf f s ∧ f s ≤ prevOf f n := by
  have h1 : ∀ s, s < n → 0 ≤ f s := by
    intro s
    induction s with
    | zero => intro hs; exact h 0 hs
    | succ s ih =>
      intro hs
      have a := ih (by omega)
      have b : f s ≤ f (s + 1) := h (s + 1) hs
      omega
  have h2 : ∀ d s, s + d < n → f s ≤ f (s + d) := by
    intro d
    induction d with
    | zero => intro s _; exact Int.le_refl _
    | succ d ih =>
      intro s hs
      have a := ih s (by omega)
      have b : f (s + d) ≤ f (s + d + 1) := h (s + d + 1) hs
      exact Int.le_trans a b
  intro s hs
  refine ⟨h1 s hs, ?_, ?_⟩
  · unfold prevOf
    split
    · exact Int.le_refl _
    · exact h1 (s - 1) (by omega)
  · unfold prevOf
    rw [if_neg (by omega)]
    have := h2 (n - 1 - s) s (by omega)
    rw [show s + (n - 1 - s) = n - 1 by omega] at this
    exact this

theorem fits_mk {I : Cin} (hwt : ∀ i, i < I.e → WtOk I.wt I.fx i) (hen : ∀ s, s < I.n → prevOf I.en s ≤ I.en s) (hml : prevOf I.en I.n ≤ I.ml) (hmem : ∀ i : Nat, (i : Int) < prevOf I.en I.n → 0 ≤ I.mem i ∧ I.mem i < I.e)
    (hwl : I.e + I.n ≤ I.wl) (hwh : ∀ s, s < I.n → WhOk I.e I.vl I.wh I.val s) (hv : ∀ i, I.val i < 18446744073709551616) : I.Fits := by
  have hp := prevOf_le hen
  refine ⟨fun i hi => (hwt i hi).1, fun i hi => (hwt i hi).2, ?_, ?_, ?_, ?_, hwl, fun s hs h => (hwh s hs h).1, fun s hs h => ⟨(hwh s hs h).2, hv _⟩⟩
  · intro s hs
    have := (hp s hs).1
    unfold Cin.E
    omega
  · intro s hs
    have h1 := hen s hs
    have h2 := (hp s hs).2.1
    unfold Cin.st Cin.E
    unfold prevOf at h1 h2
    split
    · omega
    · next h => rw [if_neg h] at h1 h2; omega
  · intro s hs
    have h1 := (hp s hs)
    unfold Cin.E
    omega
  · intro s j hs hj
    have h1 := hp s hs
    unfold Cin.E at hj
    have h2 := hmem j (by omega)
    unfold Cin.M
    omega

/-- What certifyFits answers. -/
def FitsPost (I : Cin) (l1 : Nat) (en' : Ending) : Prop := en' = .returned (.bool false) ∨ (en' = .returned (.bool true) ∧ l1 = I.e ∧ I.Fits)

set_option maxRecDepth 100000 in
set_option maxHeartbeats 4000000 in
theorem fits_any (a0 a1 a2 a3 a4 a5 : Option Addr) (e c0 l1 c1 ml c2 n c3 wl c4 vl c5 : Nat) (wt : Nat → Nat) (fx mem en wh : Nat → Int) (val : Nat → Nat) (w : World)
    (b0 : e ≤ 1048576) (b1 : l1 ≤ 1048576) (b2 : ml ≤ 1048576) (b3 : n ≤ 1048576) (b4 : wl ≤ 1048576) (b5 : vl ≤ 1048576)
    (hwt : ∀ i, wt i < 18446744073709551616) (hmem : ∀ i, -2147483648 ≤ mem i ∧ mem i < 2147483648) (hwh : ∀ i, -2147483648 ≤ wh i ∧ wh i < 2147483648) (hval : ∀ i, val i < 18446744073709551616)
    (hr0 : Reads w a0 e (fun i => .float .f64 (wt i))) (hr1 : Reads w a1 l1 (fun i => .int .i8 (fx i))) (hr2 : Reads w a2 ml (fun i => .int .i32 (mem i))) (hr3 : Reads w a3 n (fun i => .int .i64 (en i)))
    (hr4 : Reads w a4 wl (fun i => .int .i32 (wh i))) (hr5 : Reads w a5 vl (fun i => .float .f64 (val i))) :
    Calls Try.prog 10 #[.slice a0 e c0, .slice a1 l1 c1, .slice a2 ml c2, .slice a3 n c3, .slice a4 wl c4, .slice a5 vl c5] w fun en' w' => FitsPost ⟨e, n, ml, wl, vl, wt, fx, mem, en, wh, val⟩ l1 en' ∧ Only [] w w' := by
  have R0 : Hid _ := hr0
  have R1 : Hid _ := hr1
  have R2 : Hid _ := hr2
  have R3 : Hid _ := hr3
  have R4 : Hid _ := hr4
  have R5 : Hid _ := hr5
  have T0 : Hid _ := hwt
  have T1 : Hid _ := hmem
  have T2 : Hid _ := hwh
  have T3 : Hid _ := hval
  clear hr0 hr1 hr2 hr3 hr4 hr5 hwt hmem hwh hval
  by_cases hl : l1 = e
  · subst hl
    go_enter Try.func10, Try.ntmps10
    go_upto_block 0 with fail
    go_cut [15, 16] from 29 to 58 (fun iv wv wx => wx = w ∧ Aside (∀ i, i < l1 → WtOk wt fx i))
    case first =>
      go_wp2_with fail
      go_loopg [15, 16] l1 (fun gk iv wv wr => ∃ k : Nat, k + gk = l1 ∧ iv = .int .i64 k ∧ wr = w ∧ Aside (∀ i, i < k → WtOk wt fx i))
      case atStart => exact ⟨0, by omega, rfl, rfl, fun i hi => by omega⟩
      case round =>
        obtain ⟨k, hk, rfl, hw, hA⟩ := hrel
        replace hw := hw.symm
        subst hw
        by_cases hlt : k < l1
        · rcases R0.out with h0 | ⟨x0, o0, rfl, _, hc0⟩
          · omega
          rcases R1.out with h0 | ⟨x1, o1, rfl, _, hc1⟩
          · omega
          have d0 := hc0 k hlt
          have d1 := hc1 k hlt
          have hI : (k : Int) < (l1 : Int) := by omega
          have tk := T0.out k
          clear hc0 hc1
          have HF : Hid (Fin (wt k) → (Ieee.double.order (wt k) ONE = some .gt ∨ Ieee.double.order (wt k) ONE = some .eq) → 0 ≤ fx k → fx k ≤ 2 → ∀ i, i < k + 1 → WtOk wt fx i) := fun a b c d i hi => by
            by_cases h : i = k
            · subst h; exact ⟨ge_one_fin tk a b, c, d⟩
            · exact hA.out i (by omega)
          have hno : Hid (∀ o, Ieee.double.order (wt k) ONE = o → FloatKind.f64.format.order (wt k) 4607182418800017408 = o) := fun o h => h
          have hsub := run_subself (wt k) w
          clear tk
          generalize wt k = v at *
          by_cases hge : Ieee.double.order v ONE = some .gt ∨ Ieee.double.order v ONE = some .eq
          · have hb : (FloatKind.f64.format.order v 4607182418800017408 == some .gt || FloatKind.f64.format.order v 4607182418800017408 == some .eq) = true := by
              rcases hge with h | h <;> rw [hno.out _ h] <;> rfl
            rcases hsub with ⟨hfin, hrun⟩ | ⟨hfin, r, hrun, hro⟩
            · have hz : (FloatKind.f64.format.order 0 0 != some .eq) = false := rfl
              have HV : Hid (0 ≤ fx k → fx k ≤ 2 → ∀ i, i < k + 1 → WtOk wt fx i) := HF.out hfin hge
              clear hfin hge HF hno hA
              by_cases f1 : fx k < 0
              · go_wp2
                go_ret
                exact ⟨.inl rfl, Only.refl _ _⟩
              · by_cases f2 : 2 < fx k
                · go_wp2
                  go_ret
                  exact ⟨.inl rfl, Only.refl _ _⟩
                · go_wp2
                  go_roundg (gk - 1)
                  case measure => omega
                  case rel => exact ⟨k + 1, by omega, by go_num, rfl, HV.out (by omega) (by omega)⟩
            · have hz : (FloatKind.f64.format.order r 0 != some .eq) = true := by
                have : FloatKind.f64.format.order r 0 = none := hro
                rw [this]; rfl
              clear hfin hge HF hno
              go_wp2
              go_ret
              exact ⟨.inl rfl, (Only.refl _ _).drew⟩
          · have hb : (FloatKind.f64.format.order v 4607182418800017408 == some .gt || FloatKind.f64.format.order v 4607182418800017408 == some .eq) = false := by
              have e1 := hno.out _ rfl
              rw [e1]
              rcases hh : Ieee.double.order v ONE with _ | o
              · rfl
              · cases o
                · rfl
                · exact absurd (.inr hh) hge
                · exact absurd (.inl hh) hge
            clear hge HF hno hsub
            go_wp2
            go_ret
            exact ⟨.inl rfl, Only.refl _ _⟩
        · obtain rfl : k = l1 := by omega
          go_wp2
          go_meet
          case rel => exact ⟨rfl, hA⟩
    case rest =>
      obtain ⟨hw, hA⟩ := hcut
      replace hw := hw.symm
      subst hw
      have HA : Hid _ := hA.out
      clear hA
      have hel := endsLast_some a3 n c3 en w (by omega) R3.out
      go_wp2_with fail
      refine hel.mono ?_
      rintro _ w' ⟨r, rfl, rfl, hr⟩
      clear hel
      have HR : Hid _ := hr
      clear hr
      by_cases r1 : r < 0
      · go_wp2_with fail
        go_ret
        exact ⟨.inl rfl, Only.refl _ _⟩
      · by_cases r2 : (ml : Int) < r
        · go_wp2_with fail
          go_ret
          exact ⟨.inl rfl, Only.refl _ _⟩
        · obtain ⟨hr1, hr2⟩ : r = prevOf en n ∧ ∀ s, s < n → prevOf en s ≤ en s := by
            rcases HR.out with h | h
            · omega
            · exact h
          obtain ⟨up, hup⟩ : ∃ up : Nat, r = (up : Int) := ⟨r.toNat, by omega⟩
          subst hup
          have HE : Hid ((up : Int) = prevOf en n ∧ ∀ s, s < n → prevOf en s ≤ en s) := ⟨hr1, hr2⟩
          clear hr1 hr2 HR
          have q1 : decide ((up : Int) < 0) = false := decide_eq_false (by omega)
          have q2 : decide (ml < up) = false := decide_eq_false (by omega)
          have hib := indicesBelow_any a2 ml c2 mem up l1 w' (by omega) (by omega) T1.out R2.out
          go_wp2_with fail
          refine hib.mono ?_
          rintro _ w1 ⟨rv, rfl, rfl, hr⟩
          clear hib
          rcases hr with rfl | ⟨rfl, hr⟩
          · go_wp2_with fail
            go_ret
            exact ⟨.inl rfl, Only.refl _ _⟩
          · have HM : Hid _ := hr
            clear hr
            by_cases hwl : wl < l1 + n
            · have : (wl : Int) < (l1 : Int) + n := by omega
              go_wp2_with fail
              go_ret
              exact ⟨.inl rfl, Only.refl _ _⟩
            · have q3 : decide ((wl : Int) < (l1 : Int) + (n : Int)) = false := decide_eq_false (by omega)
              go_wp2_with fail
              go_loopg [18, 19, 20] n (fun gk iv av vv wr => ∃ k : Nat, k + gk = n ∧ iv = .int .i64 k ∧ wr = w1 ∧ Aside (∀ i, i < k → WhOk l1 vl wh val i))
              case atStart => exact ⟨0, by omega, rfl, rfl, fun i hi => by omega⟩
              case round =>
                obtain ⟨k, hk, rfl, hw, hB⟩ := hrel
                replace hw := hw.symm
                subst hw
                by_cases hlt : k < n
                · rcases R4.out with h0 | ⟨x4, o4, rfl, _, hc4⟩
                  · omega
                  have d4 := hc4 (l1 + k) (by omega)
                  have hI : (k : Int) < (n : Int) := by omega
                  have hI2 : (l1 : Int) + (k : Int) < (wl : Int) := by omega
                  obtain ⟨t1, t2⟩ := T2.out (l1 + k)
                  clear hc4
                  have HF : Hid ((0 ≤ wh (l1 + k) → (wh (l1 + k)).toNat < vl ∧ Fin (val (wh (l1 + k)).toNat)) → ∀ i, i < k + 1 → WhOk l1 vl wh val i) := fun a i hi => by
                    by_cases h : i = k
                    · subst h; exact a
                    · exact hB.out i (by omega)
                  clear hB
                  generalize wh (l1 + k) = at' at *
                  by_cases ha : 0 ≤ at'
                  · obtain ⟨u, rfl⟩ : ∃ u : Nat, at' = (u : Int) := ⟨at'.toNat, by omega⟩
                    by_cases hu : u < vl
                    · rcases R5.out with h0 | ⟨x5, o5, rfl, _, hc5⟩
                      · omega
                      have d5 := hc5 u hu
                      have hI3 : (u : Int) < (vl : Int) := by omega
                      have hsub := run_subself (val u) w1
                      clear hc5 t1 t2
                      rw [show ((u : Int)).toNat = u by omega] at HF
                      generalize val u = v at *
                      rcases hsub with ⟨hfin, hrun⟩ | ⟨hfin, r, hrun, hro⟩
                      · have hz : (FloatKind.f64.format.order 0 0 != some .eq) = false := rfl
                        have HB : Hid (∀ i, i < k + 1 → WhOk l1 vl wh val i) := HF.out (fun _ => ⟨hu, hfin⟩)
                        clear hfin HF
                        go_wp2_with fail
                        go_roundg (gk - 1)
                        case measure => omega
                        case rel => exact ⟨k + 1, by omega, by go_num, rfl, HB.out⟩
                      · have hz : (FloatKind.f64.format.order r 0 != some .eq) = true := by
                          have : FloatKind.f64.format.order r 0 = none := hro
                          rw [this]; rfl
                        clear hfin HF
                        go_wp2_with fail
                        go_ret
                        exact ⟨.inl rfl, (Only.refl _ _).drew⟩
                    · have hI3 : (vl : Int) ≤ (u : Int) := by omega
                      clear HF
                      go_wp2_with fail
                      go_ret
                      exact ⟨.inl rfl, Only.refl _ _⟩
                  · have HB : Hid (∀ i, i < k + 1 → WhOk l1 vl wh val i) := HF.out (fun h => absurd h ha)
                    clear HF
                    go_wp2_with fail
                    go_roundg (gk - 1)
                    case measure => omega
                    case rel => exact ⟨k + 1, by omega, by go_num, rfl, HB.out⟩
                · obtain rfl : k = n := by omega
                  go_wp2_with fail
                  go_ret
                  exact ⟨.inr ⟨rfl, rfl, fits_mk HA.out HE.out.2 (by have := HE.out.1; show prevOf en k ≤ (ml : Int); omega) (fun i hi => HM.out i (by have := HE.out.1; have hi' : (i : Int) < prevOf en k := hi; omega)) (by show l1 + k ≤ wl; omega) hB.out T3.out⟩, Only.refl _ _⟩
  · have hl' : ((l1 : Int) == (e : Int)) = false := by rw [beq_eq_false_iff_ne]; omega
    go_enter Try.func10, Try.ntmps10
    go_wp2
    go_ret
    exact ⟨.inl rfl, Only.refl _ _⟩

end Go.Proofs.Qxb6601548a
