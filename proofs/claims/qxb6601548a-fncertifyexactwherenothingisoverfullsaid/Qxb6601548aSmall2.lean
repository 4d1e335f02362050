/- The small functions: limitOf, endsLast, indicesBelow, certifyTooBig, the bytes. -/
import Derived.Test.Qxb6601548aFRun
namespace Go.Proofs.Qxb6601548a
open Go.RowKit

set_option maxHeartbeats 400000 in
theorem limitOf_any (x : Nat) (k : Int) (w : World) : Calls Try.prog 17 #[.float .f64 x, .int .i8 k] w fun e w' => e = .returned (.float .f64 (if k = 1 then 0 else x)) ∧ w' = w := by
  by_cases hk : k = 1
  · subst hk
    go_enter Try.func17, Try.ntmps17
    go_wp2
    go_ret
    exact ⟨rfl, rfl⟩
  · rw [if_neg hk]
    go_enter Try.func17, Try.ntmps17
    go_wp2
    go_ret
    exact ⟨rfl, rfl⟩

def prevOf (f : Nat → Int) (s : Nat) : Int := if s = 0 then 0 else f (s - 1)

set_option maxHeartbeats 400000 in
theorem endsLast_some (ao : Option Addr) (len cap : Nat) (f : Nat → Int) (w : World) (hlen : len ≤ 1048576) (hr : Reads w ao len (fun i => .int .i64 (f i))) :
    Calls Try.prog 32 #[.slice ao len cap] w fun e w' => ∃ r, e = .returned (.int .i64 r) ∧ w' = w ∧ (r = -1 ∨ (r = prevOf f len ∧ ∀ s, s < len → prevOf f s ≤ f s)) := by
  have R : Hid _ := hr
  clear hr
  go_enter Try.func32, Try.ntmps32
  go_wp2
  go_loopg [3, 4] len (fun gk pv iv wr => ∃ k : Nat, k + gk = len ∧ iv = .int .i64 k ∧ pv = .int .i64 (prevOf f k) ∧ wr = w ∧ Aside (∀ s, s < k → prevOf f s ≤ f s))
  case atStart => exact ⟨0, by omega, rfl, rfl, rfl, fun s hs => by omega⟩
  case round =>
    obtain ⟨k, hk, rfl, rfl, hw, hA⟩ := hrel
    replace hw := hw.symm
    subst hw
    by_cases hlt : k < len
    · rcases R.out with h0 | ⟨b, off, rfl, _, hc⟩
      · omega
      have c1 := hc k hlt
      have hI : (k : Int) < (len : Int) := by omega
      have HP : Hid (prevOf f (k + 1) = f k) := rfl
      clear hc
      by_cases hp : f k < prevOf f k
      · generalize prevOf f k = pk at *
        go_wp2
        go_ret
        exact ⟨-1, rfl, rfl, .inl rfl⟩
      · have hA' : Aside (∀ s, s < k + 1 → prevOf f s ≤ f s) := fun s hs => by
          by_cases h : s = k
          · subst h; omega
          · exact hA.out s (by omega)
        clear hA
        generalize prevOf f k = pk at *
        go_wp2
        go_roundg (gk - 1)
        case measure => omega
        case rel => exact ⟨k + 1, by omega, by go_num, by rw [HP.out], rfl, hA'⟩
    · obtain rfl : k = len := by omega
      go_wp2
      go_ret
      exact ⟨_, rfl, rfl, .inr ⟨rfl, hA.out⟩⟩

set_option maxHeartbeats 400000 in
theorem indicesBelow_any (ao : Option Addr) (len cap : Nat) (f : Nat → Int) (up e : Nat) (w : World) (hlen : len ≤ 1048576) (hu : up ≤ len) (hf : ∀ i, -2147483648 ≤ f i ∧ f i < 2147483648)
    (hr : Reads w ao len (fun i => .int .i32 (f i))) :
    Calls Try.prog 33 #[.slice ao len cap, .int .i64 up, .int .i64 e] w fun en w' => ∃ r, en = .returned r ∧ w' = w ∧ (r = .bool false ∨ (r = .bool true ∧ ∀ i, i < up → 0 ≤ f i ∧ f i < e)) := by
  have R : Hid _ := hr
  have HF : Hid _ := hf
  clear hr hf
  go_enter Try.func33, Try.ntmps33
  go_wp2
  go_loopg [7] up (fun gk iv wr => ∃ k : Nat, k + gk = up ∧ iv = .int .i64 k ∧ wr = w ∧ Aside (∀ i, i < k → 0 ≤ f i ∧ f i < e))
  case atStart => exact ⟨0, by omega, rfl, rfl, fun s hs => by omega⟩
  case round =>
    obtain ⟨k, hk, rfl, hw, hA⟩ := hrel
    replace hw := hw.symm
    subst hw
    by_cases hlt : k < up
    · rcases R.out with h0 | ⟨b, off, rfl, _, hc⟩
      · omega
      have c1 := hc k (by omega)
      obtain ⟨f1, f2⟩ := HF.out k
      have hI : (k : Int) < (len : Int) := by omega
      clear hc
      by_cases hp : f k < 0
      · go_wp2
        go_ret
        exact ⟨_, rfl, rfl, .inl rfl⟩
      · by_cases hq : f k < e
        · have hA' : Aside (∀ s, s < k + 1 → 0 ≤ f s ∧ f s < e) := fun s hs => by
            by_cases h : s = k
            · subst h; omega
            · exact hA.out s (by omega)
          clear hA
          go_wp2
          go_roundg (gk - 1)
          case measure => omega
          case rel => exact ⟨k + 1, by omega, by go_num, rfl, hA'⟩
        · go_wp2
          go_ret
          exact ⟨_, rfl, rfl, .inl rfl⟩
    · obtain rfl : k = up := by omega
      go_wp2
      go_ret
      exact ⟨_, rfl, rfl, .inr ⟨rfl, hA.out⟩⟩

set_option maxHeartbeats 4000000 in
theorem bytes18 (a0 a1 a2 a3 a4 a5 : Option Addr) (l0 c0 l1 c1 l2 c2 l3 c3 l4 c4 l5 c5 : Nat) (w : World) (h0 : l0 ≤ 9223372036854775807) (h1 : l1 ≤ 9223372036854775807) (h2 : l2 ≤ 9223372036854775807) (h3 : l3 ≤ 9223372036854775807) (h4 : l4 ≤ 9223372036854775807) (h5 : l5 ≤ 9223372036854775807) :
    Calls Try.prog 18 #[.slice a0 l0 c0, .slice a1 l1 c1, .slice a2 l2 c2, .slice a3 l3 c3, .slice a4 l4 c4, .slice a5 l5 c5] w fun e w' => ∃ r : Bool, e = .returned (.bool r) ∧ w' = w ∧ (r = true → l0 + l1 + l2 + l3 + l4 + l5 ≤ 1048576) := by
  go_enter Try.func18, Try.ntmps18
  go_wp2
  all_goals
    go_ret
    refine ⟨_, rfl, rfl, ?_⟩
    first | (intro _; omega) | (intro h; simp at h)

/-- Some bool was returned. -/
def AnyBool (e : Ending) : Prop := ∃ r : Bool, e = .returned (.bool r)

set_option maxHeartbeats 4000000 in
theorem tooBig_any (a0 a1 a2 a3 a4 a5 : Option Addr) (l0 c0 l1 c1 l2 c2 l3 c3 l4 c4 l5 c5 : Nat) (w : World) (h0 : l0 ≤ 1048576) (h1 : l1 ≤ 1048576) (h2 : l2 ≤ 1048576) (h3 : l3 ≤ 1048576) (h4 : l4 ≤ 1048576) (h5 : l5 ≤ 1048576) :
    Calls Try.prog 9 #[.slice a0 l0 c0, .slice a1 l1 c1, .slice a2 l2 c2, .slice a3 l3 c3, .slice a4 l4 c4, .slice a5 l5 c5] w fun e w' => AnyBool e ∧ w' = w := by
  go_enter Try.func9, Try.ntmps9
  go_wp2
  all_goals
    go_ret
    exact ⟨⟨_, rfl⟩, rfl⟩

end Go.Proofs.Qxb6601548a
