/- FnSplitOnShortestPath: the walk. -/
import Derived.Test.Qxb6600671aRunSplit
import Derived.Test.Qxb6600671aLcsLen
namespace Go.Proofs.Qxb6600671a
open Go.RowKit

set_option maxHeartbeats 400000 in
theorem bytes19 (a0 a1 : Option Addr) (l0 c0 l1 c1 : Nat) (w : World) (h0 : l0 ≤ 9223372036854775807) (h1 : l1 ≤ 9223372036854775807) :
    Calls Try.prog 19 #[.slice a0 l0 c0, .slice a1 l1 c1] w fun e w' => ∃ r : Bool, e = .returned (.bool r) ∧ w' = w := by
  go_enter Try.func19, Try.ntmps19
  go_wp2
  all_goals
    go_ret
    exact ⟨_, rfl, rfl⟩

/-- A part of an array, as a slice. -/
theorem reads_part {w : World} {b n : Nat} {e : TypeId} {f : Nat → Value} (h : Arr w b n e f) (lo len : Nat) (hl : lo + len ≤ n) : Reads w (some ⟨b, lo, none⟩) len (fun i => f (lo + i)) :=
  .inr ⟨b, lo, rfl, h.lt, fun i hi => h.cell (by omega)⟩

theorem opt_lcs {a b : Nat → Int} {n m x y : Nat} (hx : x ≤ n) (hy : y ≤ m) (h : Opt a b n m x y) : lcs a b x y + lcs (fun k => a (x + k)) (fun k => b (y + k)) (n - x) (m - y) = lcs a b n m := by
  unfold Opt Dd Ee at h
  simp only [Int.toNat_natCast] at h
  rw [lcs_rest a b hx hy] at h
  omega

set_option maxRecDepth 100000 in
set_option maxHeartbeats 2000000 in
theorem shortest_in (a0 a1 : Option Addr) (l0 c0 l1 c1 : Nat) (f g : Nat → Int) (w : World) (h0 : l0 ≤ 1024) (h1 : l1 ≤ 1024)
    (hn0 : a0 = none → l0 = 0 ∧ c0 = 0) (hn1 : a1 = none → l1 = 0 ∧ c1 = 0) (hr0 : Reads w a0 l0 (fun i => .int .i64 (f i))) (hr1 : Reads w a1 l1 (fun i => .int .i64 (g i))) :
    Calls Try.prog 6 #[.slice a0 l0 c0, .slice a1 l1 c1] w fun e w' => e = .returned (.bool true) ∧ Only [] w w' := by
  have R0 : Hid _ := hr0
  have R1 : Hid _ := hr1
  have N0 : Hid _ := hn0
  have N1 : Hid _ := hn1
  clear hr0 hr1 hn0 hn1
  have hbt := bytes19 a0 a1 l0 c0 l1 c1 w (by omega) (by omega)
  go_enter Try.func6, Try.ntmps6
  go_wp2_with fail
  refine hbt.mono ?_
  rintro e w' ⟨r, rfl, rfl⟩
  clear hbt
  cases r
  · go_wp2_with fail
    go_ret
    exact ⟨rfl, Only.refl _ _⟩
  · go_wp2_with fail
    refine (premise_any a0 a1 l0 c0 l1 c1 f g w' (by omega) (by omega) R0.out R1.out).mono ?_
    rintro e w1 ⟨r, rfl, ⟨q, rfl⟩, hpr⟩
    cases r
    · go_wp2_with fail
      go_ret
      exact ⟨rfl, (Only.refl _ _).drewN q⟩
    · obtain ⟨p0, p1, hfirst, hlast⟩ := hpr.out rfl
      have HF : Hid (f 0 ≠ g 0 ∧ f (l0 - 1) ≠ g (l1 - 1)) := ⟨hfirst, hlast⟩
      clear hfirst hlast hpr
      have oq : Only [] w' (w'.drewN q) := (Only.refl _ _).drewN q
      go_wp2_with fail
      refine (cloneInts_any a0 l0 c0 f (w'.drewN q) (by omega) N0.out (Reads.only R0.out oq)).mono ?_
      rintro e w1 ⟨ao, rfl, h1', ho1⟩
      obtain ⟨rfl, hA1⟩ : ao = some ⟨w'.heap.size, 0, none⟩ ∧ Arr w1 w'.heap.size l0 3 (fun i => .int .i64 (f i)) := by rcases h1' with h1' | h1'; omega; exact h1'
      go_wp2_with fail
      refine (cloneInts_any a1 l1 c1 g w1 (by omega) N1.out (Reads.only (Reads.only R1.out oq) ho1)).mono ?_
      rintro e w2 ⟨ao, rfl, h2', ho2⟩
      obtain ⟨rfl, hA2⟩ : ao = some ⟨w1.heap.size, 0, none⟩ ∧ Arr w2 w1.heap.size l1 3 (fun i => .int .i64 (g i)) := by rcases h2' with h2' | h2'; omega; exact h2'
      have hA1' := ho2.arr hA1 (by simp)
      have hrs := runSplit_any w'.heap.size w1.heap.size l0 l1 (l0 + l1 + 2) f g w2 (by omega) (by omega) p0 p1 (by omega) (by omega) hA1' hA2 HF.out.1 HF.out.2
      rw [show ((l0 + l1 + 2 : Nat) : Int) = (l0 : Int) + l1 + 2 by omega] at hrs
      have HRS : Hid _ := hrs
      have ho : Only [] w' w2 := (oq.trans ho1).trans ho2
      clear hrs hA1 h1' h2' ho1 ho2 oq R0 R1 N0 N1
      go_wp2_with fail
      refine Calls.mono HRS.out ?_
      rintro e w3 ⟨x, y, rfl, hok, hopt, ho3⟩
      obtain ⟨x0, xn, y0, ym, ns, ne⟩ := hok
      have ho' := ho.trans ho3
      have hB1 := ho3.arr hA1' (by simp)
      have hB2 := ho3.arr hA2 (by simp)
      obtain ⟨x, rfl⟩ := Int.eq_ofNat_of_zero_le x0
      obtain ⟨y, rfl⟩ := Int.eq_ofNat_of_zero_le y0
      have hsum : Hid (lcs f g x y + lcs (fun k => f (x + k)) (fun k => g (y + k)) (l0 - x) (l1 - y) = lcs f g l0 l1) := opt_lcs (by omega) (by omega) (hopt (by omega))
      generalize w'.heap.size = ba at *
      generalize w1.heap.size = bb at *
      clear ho ho3 HRS hopt hA1' hA2 HF
      have xI : ¬ (x : Int) < 0 := by omega
      have yI : ¬ (y : Int) < 0 := by omega
      have xnI : ¬ (l0 : Int) < (x : Int) := by omega
      have ynI : ¬ (l1 : Int) < (y : Int) := by omega
      go_upto_region 13 with fail
      go_cut [84] from 9 to 103 (fun c wx => wx = w3 ∧ c = .bool false)
      case first =>
        by_cases x00 : (x : Int) = 0
        · have hbx : ((x : Int) == 0) = true := by simpa using x00
          have y00 : ¬ (y : Int) = 0 := fun h => ns ⟨x00, h⟩
          have hby : ((y : Int) == 0) = false := by simpa using y00
          have hbxl : ((x : Int) == (l0 : Int)) = false := by rw [beq_eq_false_iff_ne]; omega
          clear x00 ns ne
          go_wp2_with fail
          go_meet
          case rel => exact ⟨rfl, rfl⟩
        · have hbx : ((x : Int) == 0) = false := by simpa using x00
          clear ns
          by_cases xl : (x : Int) = (l0 : Int)
          · have hbxl : ((x : Int) == (l0 : Int)) = true := by simpa using xl
            have hyl : ¬ (y : Int) = (l1 : Int) := fun h => ne ⟨xl, h⟩
            have hbyl : ((y : Int) == (l1 : Int)) = false := by simpa using hyl
            clear xl ne
            go_wp2_with fail
            go_meet
            case rel => exact ⟨rfl, rfl⟩
          · have hbxl : ((x : Int) == (l0 : Int)) = false := by simpa using xl
            clear ne
            go_wp2_with fail
            go_meet
            case rel => exact ⟨rfl, rfl⟩
      case rest =>
      obtain ⟨hw, rfl⟩ := hcut
      subst hw
      have NE : Hid (¬ ((x : Int) = l0 ∧ (y : Int) = l1)) := ne
      clear ns ne
      have xn' : x ≤ l0 := by omega
      have yn' : y ≤ l1 := by omega
      have C1 : Hid (∀ wx, Only [] wc wx → Calls Try.prog 16 #[.slice (some ⟨ba, 0, none⟩) x l0, .slice (some ⟨bb, 0, none⟩) y l1] wx fun e w' => e = .returned (.int .i64 (lcs f g x y : Int)) ∧ Only [] wx w') := fun wx h =>
        lcsLen_any _ _ x l0 y l1 f g wx (by omega) (by omega) (by have := reads_part (h.arr hB1 (by simp)) 0 x (by omega); simpa using this) (by have := reads_part (h.arr hB2 (by simp)) 0 y (by omega); simpa using this)
      have C3 : Hid (∀ wx, Only [] wc wx → Calls Try.prog 16 #[.slice (some ⟨ba, 0, none⟩) l0 l0, .slice (some ⟨bb, 0, none⟩) l1 l1] wx fun e w' => e = .returned (.int .i64 (lcs f g l0 l1 : Int)) ∧ Only [] wx w') := fun wx h =>
        lcsLen_any _ _ l0 l0 l1 l1 f g wx (by omega) (by omega) (Reads.ofArr (h.arr hB1 (by simp))) (Reads.ofArr (h.arr hB2 (by simp)))
      have b1 := lcs_le_left f g x y
      have b3 := lcs_le_left f g l0 l1
      have hsm := hsum.out
      generalize lcs f g x y = v1 at *
      generalize lcs f g l0 l1 = v3 at *
      generalize e2 : lcs (fun k => f (x + k)) (fun k => g (y + k)) (l0 - x) (l1 - y) = v2 at *
      have b2 : v2 ≤ 1024 := by omega
      have b1' : v1 ≤ 1024 := by omega
      clear hsm b1 b3
      by_cases hxl : l0 = x
      · have hyne : ¬ l1 = y := fun h => NE.out ⟨by omega, by omega⟩
        subst hxl
        rw [Nat.sub_self] at e2

        have C2 : Hid (∀ wx, Only [] wc wx → Calls Try.prog 16 #[.slice (some ⟨ba, 0, none⟩) 0 0, .slice (some ⟨bb, y, none⟩) (l1 - y) (l1 - y)] wx fun e w' => e = .returned (.int .i64 (v2 : Int)) ∧ Only [] wx w') := fun wx h => by
          rw [← e2]
          exact lcsLen_any _ _ _ _ _ _ _ _ wx (by omega) (by omega) (.inl rfl) (reads_part (h.arr hB2 (by simp)) y (l1 - y) (by omega))
        have tok1 : True := trivial
        have tok2 : True := trivial
        clear e2 hB1 hB2
        go_upto_region 15 with fail
        go_region_with (first | (go_at_call 16; have _t := tok1; refine Calls.mono (C1.out _ ((Only.refl _ _).drew)) ?_; rintro e w' ⟨rfl, o1⟩; clear tok1) | (go_at_call 16; have _t := tok2; refine Calls.mono (C2.out _ (((Only.refl _ _).drew).trans o1)) ?_; rintro e w' ⟨rfl, o2⟩; clear tok2) | (go_at_call 16; refine Calls.mono (C3.out _ ((((Only.refl _ _).drew).trans o1).trans o2)) ?_; rintro e w' ⟨rfl, o3⟩))
        all_goals
          go_wp2_with fail
          go_ret
          refine ⟨?_, ho'.trans (((((Only.refl _ _).drew).trans o1).trans o2).trans o3)⟩
          simp [Act.put]
          rw [IntKind.wrap_i64]
          have hs := hsum.out
          omega
      · by_cases hyl : l1 = y
        · subst hyl
          rw [Nat.sub_self] at e2

          have C2 : Hid (∀ wx, Only [] wc wx → Calls Try.prog 16 #[.slice (some ⟨ba, x, none⟩) (l0 - x) (l0 - x), .slice (some ⟨bb, 0, none⟩) 0 0] wx fun e w' => e = .returned (.int .i64 (v2 : Int)) ∧ Only [] wx w') := fun wx h => by
            rw [← e2]
            exact lcsLen_any _ _ _ _ _ _ _ _ wx (by omega) (by omega) (reads_part (h.arr hB1 (by simp)) x (l0 - x) (by omega)) (.inl rfl)
          have tok1 : True := trivial
          have tok2 : True := trivial
          clear e2 hB1 hB2
          go_upto_region 15 with fail
          go_region_with (first | (go_at_call 16; have _t := tok1; refine Calls.mono (C1.out _ ((Only.refl _ _).drew)) ?_; rintro e w' ⟨rfl, o1⟩; clear tok1) | (go_at_call 16; have _t := tok2; refine Calls.mono (C2.out _ (((Only.refl _ _).drew).trans o1)) ?_; rintro e w' ⟨rfl, o2⟩; clear tok2) | (go_at_call 16; refine Calls.mono (C3.out _ ((((Only.refl _ _).drew).trans o1).trans o2)) ?_; rintro e w' ⟨rfl, o3⟩))
          all_goals
            go_wp2_with fail
            go_ret
            refine ⟨?_, ho'.trans (((((Only.refl _ _).drew).trans o1).trans o2).trans o3)⟩
            simp [Act.put]
            rw [IntKind.wrap_i64]
            have hs := hsum.out
            omega

        · have C2 : Hid (∀ wx, Only [] wc wx → Calls Try.prog 16 #[.slice (some ⟨ba, x, none⟩) (l0 - x) (l0 - x), .slice (some ⟨bb, y, none⟩) (l1 - y) (l1 - y)] wx fun e w' => e = .returned (.int .i64 (v2 : Int)) ∧ Only [] wx w') := fun wx h => by
            rw [← e2]
            exact lcsLen_any _ _ _ _ _ _ _ _ wx (by omega) (by omega) (reads_part (h.arr hB1 (by simp)) x (l0 - x) (by omega)) (reads_part (h.arr hB2 (by simp)) y (l1 - y) (by omega))
          have tok1 : True := trivial
          have tok2 : True := trivial
          clear e2 hB1 hB2
          go_upto_region 15 with fail
          go_region_with (first | (go_at_call 16; have _t := tok1; refine Calls.mono (C1.out _ ((Only.refl _ _).drew)) ?_; rintro e w' ⟨rfl, o1⟩; clear tok1) | (go_at_call 16; have _t := tok2; refine Calls.mono (C2.out _ (((Only.refl _ _).drew).trans o1)) ?_; rintro e w' ⟨rfl, o2⟩; clear tok2) | (go_at_call 16; refine Calls.mono (C3.out _ ((((Only.refl _ _).drew).trans o1).trans o2)) ?_; rintro e w' ⟨rfl, o3⟩))
          all_goals
            go_wp2_with fail
            go_ret
            refine ⟨?_, ho'.trans (((((Only.refl _ _).drew).trans o1).trans o2).trans o3)⟩
            simp [Act.put]
            rw [IntKind.wrap_i64]
            have hs := hsum.out
            omega


set_option maxHeartbeats 2000000 in
/-- THE WALK: whatever comes in. -/
theorem shortest_any (a0 a1 : Option Addr) (l0 c0 l1 c1 : Nat) (f g : Nat → Int) (w : World) (hm0 : l0 ≤ maxLen) (hm1 : l1 ≤ maxLen)
    (hn0 : a0 = none → l0 = 0 ∧ c0 = 0) (hn1 : a1 = none → l1 = 0 ∧ c1 = 0) (hr0 : Reads w a0 l0 (fun i => .int .i64 (f i))) (hr1 : Reads w a1 l1 (fun i => .int .i64 (g i))) :
    Calls Try.prog 6 #[.slice a0 l0 c0, .slice a1 l1 c1] w fun e w' => e = .returned (.bool true) ∧ Only [] w w' := by
  unfold maxLen at hm0 hm1
  by_cases b0 : l0 ≤ 1024
  · by_cases b1 : l1 ≤ 1024
    · exact shortest_in a0 a1 l0 c0 l1 c1 f g w b0 b1 hn0 hn1 hr0 hr1
    · have hbt := bytes19 a0 a1 l0 c0 l1 c1 w (by omega) (by omega)
      clear hr0 hr1 hn0 hn1
      go_enter Try.func6, Try.ntmps6
      go_wp2_with fail
      refine hbt.mono ?_
      rintro e w' ⟨r, rfl, rfl⟩
      cases r <;> (go_wp2_with fail; go_ret; exact ⟨rfl, Only.refl _ _⟩)
  · have hbt := bytes19 a0 a1 l0 c0 l1 c1 w (by omega) (by omega)
    clear hr0 hr1 hn0 hn1
    go_enter Try.func6, Try.ntmps6
    go_wp2_with fail
    refine hbt.mono ?_
    rintro e w' ⟨r, rfl, rfl⟩
    cases r <;> (go_wp2_with fail; go_ret; exact ⟨rfl, Only.refl _ _⟩)

end Go.Proofs.Qxb6600671a
