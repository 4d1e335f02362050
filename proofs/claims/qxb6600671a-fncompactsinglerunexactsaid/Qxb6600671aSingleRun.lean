/- What FnCompactSingleRunExact calls: the single run, the rest of the text, the bound on bytes. -/
import Derived.Test.Qxb6600671aSmall
import Derived.Test.Qxb6600671aSingleLaw
import Derived.Deep.DeepCutAuto
import Derived.Deep.CutBlock
import Derived.Deep.LoopGhost
import Derived.BigQuiet
import Derived.OwnWalk
namespace Go.Proofs.Qxb6600671a
open Go.RowKit

set_option maxHeartbeats 1000000 in
theorem bytes23 (a0 a1 a2 : Option Addr) (l0 c0 l1 c1 l2 c2 : Nat) (w : World) (h0 : l0 ≤ 9223372036854775807) (h1 : l1 ≤ 9223372036854775807) (h2 : l2 ≤ 9223372036854775807) :
    Calls Try.prog 23 #[.slice a0 l0 c0, .slice a1 l1 c1, .slice a2 l2 c2] w fun e w' => ∃ r : Bool, e = .returned (.bool r) ∧ w' = w := by
  go_enter Try.func23, Try.ntmps23
  go_wp2
  all_goals
    go_ret
    exact ⟨_, rfl, rfl⟩

set_option maxHeartbeats 400000 in
theorem restAt_lo (bn n s l i : Nat) (num : Nat → Int) (w : World) (_hn : n ≤ 1048576) (hi : i < s) (hs : s + l ≤ n) (hc : w.cell? ⟨bn, i, none⟩ = some (.int .i64 (num i))) :
    Calls Try.prog 28 #[.slice (some ⟨bn, 0, none⟩) n n, .int .i64 s, .int .i64 l, .int .i64 i] w fun e w' => e = .returned (.int .i64 (num i)) ∧ w' = w := by
  go_enter Try.func28, Try.ntmps28
  go_wp2
  go_ret
  exact ⟨rfl, rfl⟩

set_option maxHeartbeats 400000 in
theorem restAt_hi (bn n s l i : Nat) (num : Nat → Int) (w : World) (hn : n ≤ 1048576) (hi : s ≤ i) (hs : i + l < n) (hc : w.cell? ⟨bn, i + l, none⟩ = some (.int .i64 (num (i + l)))) :
    Calls Try.prog 28 #[.slice (some ⟨bn, 0, none⟩) n n, .int .i64 s, .int .i64 l, .int .i64 i] w fun e w' => e = .returned (.int .i64 (num (i + l))) ∧ w' = w := by
  go_enter Try.func28, Try.ntmps28
  go_wp2
  go_ret
  exact ⟨rfl, rfl⟩

/-- What the scan has seen of the first k marks: none (s = e = -1), or one block. -/
def Seen (ch : Nat → Bool) (k : Nat) (s e : Int) : Prop :=
  (s = -1 ∧ e = -1 ∧ ∀ j, j < k → ch j = false) ∨ ∃ s0 l : Nat, 0 < l ∧ s = s0 ∧ e = ((s0 + l : Nat) : Int) ∧ s0 + l ≤ k ∧ IsBlk k l ch s0

theorem Seen.no {ch : Nat → Bool} {k : Nat} {s e : Int} (h : Seen ch k s e) (hc : ch k = false) : Seen ch (k + 1) s e := by
  rcases h with ⟨h1, h2, h3⟩ | ⟨s0, l, h1, h2, h3, h4, h5⟩
  · exact .inl ⟨h1, h2, fun j hj => if h : j = k then h ▸ hc else h3 j (by omega)⟩
  · refine .inr ⟨s0, l, h1, h2, h3, by omega, fun j hj => ?_⟩
    by_cases h : j = k
    · rw [h, hc]; exact (Blk_false.2 (by omega)).symm
    · exact h5 j (by omega)

theorem Seen.first {ch : Nat → Bool} {k : Nat} {s e : Int} (h : Seen ch k s e) (hs : s < 0) (hc : ch k = true) : Seen ch (k + 1) k (k + 1) := by
  rcases h with ⟨h1, h2, h3⟩ | ⟨s0, l, h1, h2, h3, h4, h5⟩
  · refine .inr ⟨k, 1, by omega, rfl, rfl, by omega, fun j hj => ?_⟩
    by_cases h : j = k
    · rw [h, hc]; exact (Blk_true.2 (by omega)).symm
    · rw [h3 j (by omega)]; exact (Blk_false.2 (by omega)).symm
  · omega

theorem Seen.next {ch : Nat → Bool} {k : Nat} {s e : Int} (h : Seen ch k s e) (hs : 0 ≤ s) (he : e = k) (hc : ch k = true) : Seen ch (k + 1) s (k + 1) := by
  rcases h with ⟨h1, h2, h3⟩ | ⟨s0, l, h1, h2, h3, h4, h5⟩
  · omega
  · refine .inr ⟨s0, l + 1, by omega, h2, by omega, by omega, fun j hj => ?_⟩
    by_cases h : j = k
    · rw [h, hc]; exact (Blk_true.2 (by omega)).symm
    · rw [h5 j (by omega)]
      by_cases hb : s0 ≤ j ∧ j < s0 + l
      · rw [Blk_true.2 hb, Blk_true.2 (by omega)]
      · rw [Blk_false.2 hb, Blk_false.2 (by omega)]

theorem Seen.range {ch : Nat → Bool} {k : Nat} {s e : Int} (h : Seen ch k s e) : -1 ≤ s ∧ s ≤ k ∧ -1 ≤ e ∧ e ≤ k := by
  rcases h with ⟨h1, h2, h3⟩ | ⟨s0, l, h1, h2, h3, h4, h5⟩ <;> omega

def OneRun (ch : Nat → Bool) (n : Nat) (e : Ending) : Prop :=
  e = .returned (.tuple #[.int .i64 0, .int .i64 0, .bool false]) ∨ ∃ s0 l : Nat, e = .returned (.tuple #[.int .i64 s0, .int .i64 ((s0 : Int) + l), .bool true]) ∧ 0 < l ∧ s0 + l ≤ n ∧ IsBlk n l ch s0

theorem Seen.out {ch : Nat → Bool} {k : Nat} {s e : Int} (h : Seen ch k s e) (hs : 0 ≤ s) : OneRun ch k (.returned (.tuple #[.int .i64 s, .int .i64 e, .bool true])) := by
  rcases h with ⟨h1, h2, h3⟩ | ⟨s0, l, h1, rfl, rfl, h4, h5⟩
  · omega
  · exact .inr ⟨s0, l, by rw [show ((s0 + l : Nat) : Int) = (s0 : Int) + l by omega], h1, h4, h5⟩

set_option maxRecDepth 100000 in
set_option maxHeartbeats 1000000 in
theorem singleRun_any (ao : Option Addr) (n c : Nat) (ch : Nat → Bool) (w : World) (hn : n ≤ 1048576) (hr : Reads w ao n (fun i => .bool (ch i))) :
    Calls Try.prog 24 #[.slice ao n c] w fun e w' => OneRun ch n e ∧ w' = w := by
  have R : Hid _ := hr
  clear hr
  go_enter Try.func24, Try.ntmps24
  go_wp2_with fail
  go_loopg [5, 6, 7] n (fun gk sv ev iv wr => wr = w ∧ ∃ (k : Nat) (s e : Int), k + gk = n ∧ sv = .int .i64 s ∧ ev = .int .i64 e ∧ iv = .int .i64 k ∧ -1 ≤ s ∧ s ≤ k ∧ -1 ≤ e ∧ e ≤ k ∧ Aside (Seen ch k s e))
  case atStart => exact ⟨rfl, 0, -1, -1, by omega, rfl, rfl, rfl, by omega, by omega, by omega, by omega, .inl ⟨rfl, rfl, fun j hj => by omega⟩⟩
  case round =>
    obtain ⟨rfl, k, s, e, hk, rfl, rfl, rfl, r1, r2, r3, r4, HS⟩ := hrel
    by_cases hlt : k < n
    · rcases R.out with h | ⟨b0, o0, rfl, hb0, hx0⟩
      · omega
      have c0 := hx0 k hlt
      clear hx0
      cases hc : ch k
      · rw [hc] at c0
        have HS' : Aside (Seen ch (k + 1) s e) := HS.out.no hc
        clear hc
        go_wp2_with fail
        go_roundg (gk - 1)
        case measure => omega
        case rel => exact ⟨rfl, k + 1, s, e, by omega, rfl, rfl, by go_num, by omega, by omega, by omega, by omega, HS'⟩
      · rw [hc] at c0
        by_cases hs : s < 0
        · have HS' : Aside (Seen ch (k + 1) k (k + 1)) := HS.out.first hs hc
          clear hc
          go_wp2_with fail
          go_roundg (gk - 1)
          case measure => omega
          case rel => exact ⟨rfl, k + 1, k, k + 1, by omega, by go_num, by go_num, by go_num, by omega, by omega, by omega, by omega, HS'⟩
        · by_cases he : e = (k : Int)
          · subst he
            have HS' : Aside (Seen ch (k + 1) s (k + 1)) := HS.out.next (by omega) rfl hc
            clear hc
            go_wp2_with fail
            go_roundg (gk - 1)
            case measure => omega
            case rel => exact ⟨rfl, k + 1, s, k + 1, by omega, rfl, by go_num, by go_num, by omega, by omega, by omega, by omega, HS'⟩
          · have hb : (e == (k : Int)) = false := by simpa using he
            clear hc
            go_wp2_with fail
            go_ret3
            exact ⟨.inl rfl, rfl⟩
    · obtain rfl : k = n := by omega
      by_cases hs : s < 0
      · go_wp2_with fail
        go_ret3
        exact ⟨.inl rfl, rfl⟩
      · have HS' : Aside (OneRun ch k (.returned (.tuple #[.int .i64 s, .int .i64 e, .bool true]))) := HS.out.out (by omega)
        go_wp2_with fail
        go_ret3
        exact ⟨HS', rfl⟩

end Go.Proofs.Qxb6600671a
