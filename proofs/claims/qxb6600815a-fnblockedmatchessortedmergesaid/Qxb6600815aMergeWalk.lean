/- FnBlockedMatchesSortedMerge: the walk. -/
import Derived.Test.Qxb6600815aSortWalk
namespace Go.Proofs.Qxb6600815a
open Go.RowKit

set_option maxRecDepth 100000 in
set_option maxHeartbeats 2000000 in
/-- THE WALK: whatever comes in. -/
theorem merge_any (a0 a1 : Option Addr) (n c0 m c1 : Nat) (f g : Nat → ByteArray) (w : World) (hn : n ≤ 9223372036854775807) (hm : m ≤ 9223372036854775807) (hs0 : Short f n) (hs1 : Short g m)
    (hr0 : Reads w a0 n (fun i => .string (f i))) (hr1 : Reads w a1 m (fun i => .string (g i))) :
    Calls Try.prog 3 #[.slice a0 n c0, .slice a1 m c1] w fun e w' => e = .returned (.bool true) ∧ Only [] w w' := by
  have R0 : Hid _ := hr0
  have R1 : Hid _ := hr1
  have S0 : Hid _ := hs0
  have S1 : Hid _ := hs1
  clear hr0 hr1 hs0 hs1
  go_enter Try.func3, Try.ntmps3
  go_wp2_with fail
  refine (bytes6_any a0 a1 n c0 m c1 f g w hn hm S0.out S1.out R0.out R1.out).mono ?_
  rintro e w' ⟨⟨r, rfl⟩, rfl⟩
  cases r
  · go_wp2_with fail
    go_ret
    exact ⟨rfl, Only.refl _ _⟩
  · go_wp2_with fail
    refine (stringsBytes_any a0 n c0 f w' hn S0.out R0.out).mono ?_
    rintro e w1 ⟨z0, rfl, hz0, hb0, rfl⟩
    go_wp2_with fail
    refine (stringsBytes_any a1 m c1 g w1 hm S1.out R1.out).mono ?_
    rintro e w2 ⟨z1, rfl, hz1, hb1, rfl⟩
    by_cases hz : z0 + z1 ≤ 1048576
    · have hn' := hb0 (by omega)
      have hm' := hb1 (by omega)
      clear hb0 hb1
      have HB : Hid (∀ wx, Only [] w2 wx → Calls Try.prog 8 #[.agg #[.string ⟨#[67, 86, 69, 45, 50, 48, 49, 54, 45, 53, 49, 57, 53]⟩, .slice a0 n c0], .slice a1 m c1] wx fun e w' => BlockedPost f n g m e ∧ Only [] wx w') :=
        fun wx ho => blocked_any _ a0 a1 n c0 m c1 f g wx hn' hm' (Reads.only R0.out ho) (Reads.only R1.out ho)
      go_wp2_with fail
      refine Calls.mono (HB.out _ ((Only.refl _ _).alloc _)) ?_
      rintro e w3 ⟨hP, ho3⟩
      have ho : Only [] w2 w3 := ((Only.refl _ _).alloc _).trans ho3
      clear ho3 HB
      rcases hP with ⟨rfl, hP⟩ | ⟨rfl, hP⟩
      all_goals
        have HP : Hid _ := hP
        clear hP
        go_wp2_with fail
        refine (sort_any a0 n c0 f w3 hn' (Reads.only R0.out ho)).mono ?_
        rintro e w4 ⟨b4, F, rfl, hb4, hA4, hU4, hS4, ho4⟩
        have U4 : Hid _ := hU4
        have S4 : Hid _ := hS4
        clear hU4 hS4
        go_wp2_with fail
        refine (sort_any a1 m c1 g w4 hm' (Reads.only R1.out (ho.trans ho4))).mono ?_
        rintro e w5 ⟨b5, G, rfl, hb5, hA5, hU5, hS5, ho5⟩
        have HSh : Hid (Share F n G m ↔ Share f n g m) := Share.same S4.out hS5
        have HS1 : Hid _ := shareOne_any b4 b5 n m F G w5 hn' hm' U4.out hU5 (ho5.arr hA4 (by simp)) hA5
        have ho' := (ho.trans ho4).trans ho5
        clear hU5 hS5 S4 U4 hA4 hA5 ho4 ho5 ho
        go_wp2_with fail
        refine Calls.mono HS1.out ?_
        rintro e w6 ⟨hQ, ho6⟩
        rcases hQ with ⟨rfl, hQ⟩ | ⟨rfl, hQ⟩
        · first
          | exact absurd (HSh.out.1 hQ) HP.out
          | (clear hQ; go_wp2_with fail; go_ret; exact ⟨rfl, ho'.trans ho6⟩)
        · first
          | exact absurd (HSh.out.2 HP.out) hQ
          | (clear hQ; go_wp2_with fail; go_ret; exact ⟨rfl, ho'.trans ho6⟩)
    · go_wp2_with fail
      go_ret
      exact ⟨rfl, Only.refl _ _⟩

end Go.Proofs.Qxb6600815a
