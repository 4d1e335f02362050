/- FnSplitInteriorAnyBound: the walk. -/
import Derived.Test.Qxb6600671aRunSplit
namespace Go.Proofs.Qxb6600671a
open Go.RowKit

set_option maxHeartbeats 400000 in
theorem bytes22 (a0 a1 : Option Addr) (l0 c0 l1 c1 : Nat) (z : Int) (w : World) (h0 : l0 ≤ 9223372036854775807) (h1 : l1 ≤ 9223372036854775807) :
    Calls Try.prog 22 #[.slice a0 l0 c0, .slice a1 l1 c1, .int .i64 z] w fun e w' => ∃ r : Bool, e = .returned (.bool r) ∧ w' = w := by
  go_enter Try.func22, Try.ntmps22
  go_wp2
  all_goals
    go_ret
    exact ⟨_, rfl, rfl⟩

set_option maxRecDepth 100000 in
set_option maxHeartbeats 2000000 in
theorem interior_in (a0 a1 : Option Addr) (l0 c0 l1 c1 cb : Nat) (f g : Nat → Int) (w : World) (h0 : l0 ≤ 1024) (h1 : l1 ≤ 1024) (hcb : 1 ≤ cb) (hcb2 : cb ≤ 65536)
    (hn0 : a0 = none → l0 = 0 ∧ c0 = 0) (hn1 : a1 = none → l1 = 0 ∧ c1 = 0) (hr0 : Reads w a0 l0 (fun i => .int .i64 (f i))) (hr1 : Reads w a1 l1 (fun i => .int .i64 (g i))) :
    Calls Try.prog 7 #[.slice a0 l0 c0, .slice a1 l1 c1, .int .i64 cb] w fun e w' => e = .returned (.bool true) ∧ Only [] w w' := by
  have R0 : Hid _ := hr0
  have R1 : Hid _ := hr1
  have N0 : Hid _ := hn0
  have N1 : Hid _ := hn1
  clear hr0 hr1 hn0 hn1
  have hbt := bytes22 a0 a1 l0 c0 l1 c1 cb w (by omega) (by omega)
  go_enter Try.func7, Try.ntmps7
  go_wp2_with fail
  refine hbt.mono ?_
  rintro e w' ⟨r, rfl, rfl⟩
  clear hbt
  cases r
  · go_wp2_with fail
    go_ret
    exact ⟨rfl, Only.refl _ _⟩
  · go_wp2_with fail
    refine (premise_any a0 a1 l0 c0 l1 c1 f g w' (by omega) (by omega) R0.out R1.out).mono ?_
    rintro e w1 ⟨r, rfl, ⟨q, rfl⟩, hpr⟩
    cases r
    · go_wp2_with fail
      go_ret
      exact ⟨rfl, (Only.refl _ _).drewN q⟩
    · obtain ⟨p0, p1, hfirst, hlast⟩ := hpr.out rfl
      have HF : Hid (f 0 ≠ g 0 ∧ f (l0 - 1) ≠ g (l1 - 1)) := ⟨hfirst, hlast⟩
      clear hfirst hlast hpr
      have oq : Only [] w' (w'.drewN q) := (Only.refl _ _).drewN q
      go_wp2_with fail
      refine (cloneInts_any a0 l0 c0 f (w'.drewN q) (by omega) N0.out (Reads.only R0.out oq)).mono ?_
      rintro e w1 ⟨ao, rfl, h1', ho1⟩
      obtain ⟨rfl, hA1⟩ : ao = some ⟨(w'.drewN q).heap.size, 0, none⟩ ∧ Arr w1 (w'.drewN q).heap.size l0 3 (fun i => .int .i64 (f i)) := by rcases h1' with h1' | h1'; omega; exact h1'
      go_wp2_with fail
      refine (cloneInts_any a1 l1 c1 g w1 (by omega) N1.out (Reads.only (Reads.only R1.out oq) ho1)).mono ?_
      rintro e w2 ⟨ao, rfl, h2', ho2⟩
      obtain ⟨rfl, hA2⟩ : ao = some ⟨w1.heap.size, 0, none⟩ ∧ Arr w2 w1.heap.size l1 3 (fun i => .int .i64 (g i)) := by rcases h2' with h2' | h2'; omega; exact h2'
      have hA1' := ho2.arr hA1 (by simp)
      have hrs := runSplit_any (w'.drewN q).heap.size w1.heap.size l0 l1 cb f g w2 (by omega) (by omega) p0 p1 hcb (by omega) hA1' hA2 HF.out.1 HF.out.2
      have HRS : Hid _ := hrs
      have ho : Only [] w' w2 := (oq.trans ho1).trans ho2
      clear hrs hA1 hA2 hA1' h1' h2' ho1 ho2 oq R0 R1 N0 N1
      go_wp2_with fail
      refine Calls.mono HRS.out ?_
      rintro e w3 ⟨x, y, rfl, hok, -, ho3⟩
      obtain ⟨x0, xn, y0, ym, ns, ne⟩ := hok
      have ho' := ho.trans ho3
      clear ho ho3 HRS
      by_cases x00 : x = 0
      · have hbx : (x == 0) = true := by simpa using x00
        have y00 : ¬ y = 0 := fun h => ns ⟨x00, h⟩
        have hby : (y == 0) = false := by simpa using y00
        have hxl : ¬ x = (l0 : Int) := by omega
        have hbxl : (x == (l0 : Int)) = false := by simpa using hxl
        have X0 : Hid (x = 0) := x00
        clear x00 ns ne
        go_wp2_with fail
        go_ret
        exact ⟨rfl, ho'⟩
      · have hbx : (x == 0) = false := by simpa using x00
        clear ns
        by_cases xl : x = (l0 : Int)
        · have hbxl : (x == (l0 : Int)) = true := by simpa using xl
          have hyl : ¬ y = (l1 : Int) := fun h => ne ⟨xl, h⟩
          have hbyl : (y == (l1 : Int)) = false := by simpa using hyl
          have XL : Hid (x = (l0 : Int)) := xl
          clear xl ne
          go_wp2_with fail
          go_ret
          exact ⟨rfl, ho'⟩
        · have hbxl : (x == (l0 : Int)) = false := by simpa using xl
          clear ne
          go_wp2_with fail
          go_ret
          exact ⟨rfl, ho'⟩

set_option maxHeartbeats 2000000 in
/-- THE WALK: whatever comes in. -/
theorem interior_any (a0 a1 : Option Addr) (l0 c0 l1 c1 : Nat) (z : Int) (f g : Nat → Int) (w : World) (hm0 : l0 ≤ maxLen) (hm1 : l1 ≤ maxLen)
    (hn0 : a0 = none → l0 = 0 ∧ c0 = 0) (hn1 : a1 = none → l1 = 0 ∧ c1 = 0) (hr0 : Reads w a0 l0 (fun i => .int .i64 (f i))) (hr1 : Reads w a1 l1 (fun i => .int .i64 (g i))) :
    Calls Try.prog 7 #[.slice a0 l0 c0, .slice a1 l1 c1, .int .i64 z] w fun e w' => e = .returned (.bool true) ∧ Only [] w w' := by
  unfold maxLen at hm0 hm1
  by_cases b0 : l0 ≤ 1024
  · by_cases b1 : l1 ≤ 1024
    · by_cases z0 : 1 ≤ z
      · by_cases z1 : z ≤ 65536
        · obtain ⟨cb, rfl⟩ := Int.eq_ofNat_of_zero_le (show 0 ≤ z by omega)
          exact interior_in a0 a1 l0 c0 l1 c1 cb f g w b0 b1 (by omega) (by omega) hn0 hn1 hr0 hr1
        · have hbt := bytes22 a0 a1 l0 c0 l1 c1 z w (by omega) (by omega)
          clear hr0 hr1 hn0 hn1
          go_enter Try.func7, Try.ntmps7
          go_wp2_with fail
          refine hbt.mono ?_
          rintro e w' ⟨r, rfl, rfl⟩
          cases r <;> (go_wp2_with fail; go_ret; exact ⟨rfl, Only.refl _ _⟩)
      · have hbt := bytes22 a0 a1 l0 c0 l1 c1 z w (by omega) (by omega)
        clear hr0 hr1 hn0 hn1
        go_enter Try.func7, Try.ntmps7
        go_wp2_with fail
        refine hbt.mono ?_
        rintro e w' ⟨r, rfl, rfl⟩
        cases r <;> (go_wp2_with fail; go_ret; exact ⟨rfl, Only.refl _ _⟩)
    · have hbt := bytes22 a0 a1 l0 c0 l1 c1 z w (by omega) (by omega)
      clear hr0 hr1 hn0 hn1
      go_enter Try.func7, Try.ntmps7
      go_wp2_with fail
      refine hbt.mono ?_
      rintro e w' ⟨r, rfl, rfl⟩
      cases r <;> (go_wp2_with fail; go_ret; exact ⟨rfl, Only.refl _ _⟩)
  · have hbt := bytes22 a0 a1 l0 c0 l1 c1 z w (by omega) (by omega)
    clear hr0 hr1 hn0 hn1
    go_enter Try.func7, Try.ntmps7
    go_wp2_with fail
    refine hbt.mono ?_
    rintro e w' ⟨r, rfl, rfl⟩
    cases r <;> (go_wp2_with fail; go_ret; exact ⟨rfl, Only.refl _ _⟩)

end Go.Proofs.Qxb6600671a
