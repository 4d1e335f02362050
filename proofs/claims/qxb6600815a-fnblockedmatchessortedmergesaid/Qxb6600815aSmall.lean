/- The small functions: bounds on bytes, slices.Index, slices.Contains, Blocked, the walk through two sorted lists. -/
import Derived.Test.Qxb6600815aRows
import Derived.Test.Qxb6600815aMem
import Derived.Test.Qxb6600815aStrLaw
import Derived.Lib.SliceRun
import Derived.Lib.SlicesS
import Derived.BigQuiet
import Derived.Deep.DeepCutAuto
import Derived.Deep.CutBlock
import Derived.Deep.LoopGhost
import Derived.Laws.Cover1
namespace Go.Proofs.Qxb6600815a
open Go.RowKit

/-- A slice that may be read: it is empty, or its cells are f 0, f 1, .. -/
def Reads (w : World) (ao : Option Addr) (len : Nat) (f : Nat → Value) : Prop :=
  len = 0 ∨ ∃ b off, ao = some ⟨b, off, none⟩ ∧ b < w.heap.size ∧ ∀ i, i < len → w.cell? ⟨b, off + i, none⟩ = some (f i)

theorem Reads.ofArr {w : World} {b n : Nat} {e : TypeId} {f : Nat → Value} (h : Arr w b n e f) : Reads w (some ⟨b, 0, none⟩) n f :=
  .inr ⟨b, 0, rfl, h.lt, fun i hi => by rw [Nat.zero_add]; exact h.cell hi⟩

theorem Reads.only {w w' : World} {ao : Option Addr} {len : Nat} {f : Nat → Value} (h : Reads w ao len f) (ho : Only [] w w') : Reads w' ao len f := by
  rcases h with h | ⟨b, off, rfl, hb, hc⟩
  · exact .inl h
  · exact .inr ⟨b, off, rfl, Nat.lt_of_lt_of_le hb ho.size, fun i hi => by rw [ho.cell hb (by simp)]; exact hc i hi⟩

/-- No string is longer than a Go string can be. -/
def Short (f : Nat → ByteArray) (n : Nat) : Prop := ∀ i, i < n → (f i).size ≤ 9223372036854775807

set_option maxRecDepth 100000 in
set_option maxHeartbeats 1000000 in
theorem stringsBytes_any (ao : Option Addr) (n c : Nat) (f : Nat → ByteArray) (w : World) (hn : n ≤ 9223372036854775807) (hs : Short f n) (hr : Reads w ao n (fun i => .string (f i))) :
    Calls Try.prog 7 #[.slice ao n c] w fun e w' => ∃ z : Nat, e = .returned (.int .i64 z) ∧ z ≤ 1048577 ∧ (z ≤ 1048576 → n ≤ 65536) ∧ w' = w := by
  have R : Hid _ := hr
  have HS : Hid _ := hs
  clear hr hs
  by_cases hb : n ≤ 65536
  · go_enter Try.func7, Try.ntmps7
    go_wp2_with fail
    go_loopg [3, 4] n (fun gk zv iv wr => wr = w ∧ ∃ (k z : Nat), k + gk = n ∧ zv = .int .i64 z ∧ iv = .int .i64 k ∧ z ≤ 1048576)
    case atStart => exact ⟨rfl, 0, 0, by omega, rfl, rfl, by omega⟩
    case round =>
      obtain ⟨rfl, k, z, hk, rfl, rfl, hz⟩ := hrel
      by_cases hlt : k < n
      · rcases R.out with h | ⟨b0, o0, rfl, hb0, hx0⟩
        · omega
        have c0 := hx0 k hlt
        have hsz := HS.out k hlt
        clear hx0
        generalize f k = s at *
        by_cases h1 : s.size ≤ 1048576
        · by_cases h2 : z + (16 + s.size) ≤ 1048576
          · go_wp2_with fail
            go_roundg (gk - 1)
            case measure => omega
            case rel => exact ⟨rfl, k + 1, z + (16 + s.size), by omega, by go_num, by go_num, h2⟩
          · go_wp2_with fail
            go_ret
            exact ⟨1048577, rfl, by omega, by omega, rfl⟩
        · go_wp2_with fail
          go_ret
          exact ⟨1048577, rfl, by omega, by omega, rfl⟩
      · obtain rfl : k = n := by omega
        go_wp2_with fail
        go_ret
        exact ⟨z, rfl, by omega, by omega, rfl⟩
  · go_enter Try.func7, Try.ntmps7
    go_wp2_with fail
    go_ret
    exact ⟨1048577, rfl, by omega, by omega, rfl⟩


/-- Some bool came back. -/
def AnyBool (e : Ending) : Prop := ∃ r : Bool, e = .returned (.bool r)

set_option maxRecDepth 100000 in
set_option maxHeartbeats 2000000 in
theorem bytes6_any (a0 a1 : Option Addr) (n c0 m c1 : Nat) (f g : Nat → ByteArray) (w : World) (hn : n ≤ 9223372036854775807) (hm : m ≤ 9223372036854775807) (hs0 : Short f n) (hs1 : Short g m)
    (hr0 : Reads w a0 n (fun i => .string (f i))) (hr1 : Reads w a1 m (fun i => .string (g i))) :
    Calls Try.prog 6 #[.slice a0 n c0, .slice a1 m c1] w fun e w' => AnyBool e ∧ w' = w := by
  have R0 : Hid _ := hr0
  have R1 : Hid _ := hr1
  have S0 : Hid _ := hs0
  have S1 : Hid _ := hs1
  clear hr0 hr1 hs0 hs1
  by_cases b0 : n ≤ 1048576
  · go_enter Try.func6, Try.ntmps6
    go_upto_block 0 with fail
    go_cut [5, 6] from 17 to 37 (fun zv iv wx => wx = w ∧ ∃ z : Nat, zv = .int .i64 z ∧ z ≤ 1048576)
    case first =>
      go_wp2_with fail
      go_loopg [5, 6] n (fun gk zv iv wr => wr = w ∧ ∃ (k z : Nat), k + gk = n ∧ zv = .int .i64 z ∧ iv = .int .i64 k ∧ z ≤ 1048576)
      case atStart => exact ⟨rfl, 0, _, by omega, rfl, rfl, by omega⟩
      case round =>
        obtain ⟨rfl, k, z, hk, rfl, rfl, hz⟩ := hrel
        by_cases hlt : k < n
        · rcases R0.out with h | ⟨b0, o0, rfl, hb0, hx0⟩
          · omega
          have c0 := hx0 k hlt
          have hsz := S0.out k hlt
          clear hx0
          generalize f k = s at *
          by_cases h1 : s.size ≤ 1048576
          · by_cases h2 : z + s.size ≤ 1048576
            · go_wp2_with fail
              go_roundg (gk - 1)
              case measure => omega
              case rel => exact ⟨rfl, k + 1, z + s.size, by omega, by go_num, by go_num, h2⟩
            · go_wp2_with fail
              go_ret
              exact ⟨⟨_, rfl⟩, rfl⟩
          · go_wp2_with fail
            go_ret
            exact ⟨⟨_, rfl⟩, rfl⟩
        · obtain rfl : k = n := by omega
          go_wp2_with fail
          go_meet
          case rel => exact ⟨rfl, z, rfl, hz⟩
    case rest =>
      obtain ⟨hw, z, rfl, hz⟩ := hcut
      replace hw := hw.symm
      subst hw
      by_cases b1 : m ≤ 1048576
      · by_cases b2 : z + m ≤ 1048576
        · go_upto_block 2 with fail
          go_cut [5, 7] from 47 to 67 (fun zv iv wx => wx = w ∧ ∃ z : Nat, zv = .int .i64 z ∧ z ≤ 1048576)
          case first =>
            go_wp2_with fail
            go_loopg [5, 7] m (fun gk zv iv wr => wr = w ∧ ∃ (k z : Nat), k + gk = m ∧ zv = .int .i64 z ∧ iv = .int .i64 k ∧ z ≤ 1048576)
            case atStart => exact ⟨rfl, 0, _, by omega, rfl, rfl, by omega⟩
            case round =>
              obtain ⟨rfl, k, z, hk, rfl, rfl, hz⟩ := hrel
              by_cases hlt : k < m
              · rcases R1.out with h | ⟨b0, o0, rfl, hb0, hx0⟩
                · omega
                have c0 := hx0 k hlt
                have hsz := S1.out k hlt
                clear hx0
                generalize g k = s at *
                by_cases h1 : s.size ≤ 1048576
                · by_cases h2 : z + s.size ≤ 1048576
                  · go_wp2_with fail
                    go_roundg (gk - 1)
                    case measure => omega
                    case rel => exact ⟨rfl, k + 1, z + s.size, by omega, by go_num, by go_num, h2⟩
                  · go_wp2_with fail
                    go_ret
                    exact ⟨⟨_, rfl⟩, rfl⟩
                · go_wp2_with fail
                  go_ret
                  exact ⟨⟨_, rfl⟩, rfl⟩
              · obtain rfl : k = m := by omega
                go_wp2_with fail
                go_meet
                case rel => exact ⟨rfl, z, rfl, hz⟩
          case rest =>
            obtain ⟨rfl, z, rfl, hz⟩ := hcut
            go_wp2_with fail
            go_ret
            exact ⟨⟨_, rfl⟩, rfl⟩
        · go_wp2_with fail
          go_ret
          exact ⟨⟨_, rfl⟩, rfl⟩
      · go_wp2_with fail
        go_ret
        exact ⟨⟨_, rfl⟩, rfl⟩
  · go_enter Try.func6, Try.ntmps6
    go_wp2_with fail
    go_ret
    exact ⟨⟨_, rfl⟩, rfl⟩

set_option maxRecDepth 100000 in
set_option maxHeartbeats 1000000 in
theorem index_any (ao : Option Addr) (n c : Nat) (f : Nat → ByteArray) (x : ByteArray) (w : World) (hn : n ≤ 65536) (hr : Reads w ao n (fun i => .string (f i))) :
    Calls Try.prog 15 #[.slice ao n c, .string x] w fun e w' => (∃ k : Nat, e = .returned (.int .i64 k) ∧ k < n ∧ f k = x ∧ w' = w) ∨ (e = .returned (.int .i64 (-1)) ∧ (∀ k, k < n → f k ≠ x) ∧ w' = w) := by
  have R : Hid _ := hr
  clear hr
  go_enter Try.func15, Try.ntmps15
  go_wp2_with fail
  go_loopg [8] n (fun gk iv wr => wr = w ∧ ∃ (k : Nat), k + gk = n ∧ iv = .int .i64 k ∧ Aside (∀ j, j < k → f j ≠ x))
  case atStart => exact ⟨rfl, 0, by omega, rfl, fun j hj => by omega⟩
  case round =>
    obtain ⟨rfl, k, hk, rfl, hno⟩ := hrel
    by_cases hlt : k < n
    · rcases R.out with h | ⟨b0, o0, rfl, hb0, hx0⟩
      · omega
      have c0 := hx0 k hlt
      clear hx0
      by_cases he : f k = x
      · have hb : (x.toList == (f k).toList) = true := by rw [he]; simp
        have HE : Hid (f k = x) := he
        clear he
        go_wp2_with fail
        go_ret
        exact .inl ⟨k, rfl, hlt, HE.out, rfl⟩
      · have hb : (x.toList == (f k).toList) = false := (Lib.bytes_beq_false_iff _ _).2 (Ne.symm he)
        have HE : Aside (∀ j, j < k + 1 → f j ≠ x) := fun j hj => if h : j = k then h ▸ he else hno.out j (by omega)
        clear he
        go_wp2_with fail
        go_roundg (gk - 1)
        case measure => omega
        case rel => exact ⟨rfl, k + 1, by omega, by go_num, HE⟩
    · obtain rfl : k = n := by omega
      go_wp2_with fail
      go_ret
      exact .inr ⟨rfl, hno.out, rfl⟩

set_option maxHeartbeats 400000 in
theorem contains_any (ao : Option Addr) (n c : Nat) (f : Nat → ByteArray) (x : ByteArray) (w : World) (hn : n ≤ 65536) (hr : Reads w ao n (fun i => .string (f i))) :
    Calls Try.prog 14 #[.slice ao n c, .string x] w fun e w' => ((e = .returned (.bool true) ∧ ∃ k, k < n ∧ f k = x) ∨ (e = .returned (.bool false) ∧ ∀ k, k < n → f k ≠ x)) ∧ w' = w := by
  have HI : Hid _ := index_any ao n c f x w hn hr
  clear hr
  go_enter Try.func14, Try.ntmps14
  go_wp2_with fail
  refine Calls.mono HI.out ?_
  rintro e w' (⟨k, rfl, hk, hf, rfl⟩ | ⟨rfl, hf, rfl⟩)
  · go_wp2_with fail
    go_ret
    exact ⟨.inl ⟨by go_num, k, hk, hf⟩, rfl⟩
  · go_wp2_with fail
    go_ret
    exact ⟨.inr ⟨rfl, hf⟩, rfl⟩

/-- 'Blocked' answers whether the two lists share nothing. -/
def BlockedPost (f : Nat → ByteArray) (n : Nat) (g : Nat → ByteArray) (m : Nat) (e : Ending) : Prop := (e = .returned (.bool true) ∧ ¬ Share f n g m) ∨ (e = .returned (.bool false) ∧ Share f n g m)

set_option maxRecDepth 100000 in
set_option maxHeartbeats 1000000 in
theorem blocked_any (x : ByteArray) (a0 a1 : Option Addr) (n c0 m c1 : Nat) (f g : Nat → ByteArray) (w : World) (hn : n ≤ 65536) (hm : m ≤ 65536)
    (hr0 : Reads w a0 n (fun i => .string (f i))) (hr1 : Reads w a1 m (fun i => .string (g i))) :
    Calls Try.prog 8 #[.agg #[.string x, .slice a0 n c0], .slice a1 m c1] w fun e w' => BlockedPost f n g m e ∧ Only [] w w' := by
  have R0 : Hid _ := hr0
  have R1 : Hid _ := hr1
  clear hr0 hr1
  go_enter Try.func8, Try.ntmps8
  go_upto_block 0 with fail
  have HW : Hid (Only [] w (w.alloc (.cells #[.string x, .slice a0 n c0] 26))) := (Only.refl _ _).alloc _
  generalize w.alloc (.cells #[.string x, .slice a0 n c0] 26) = w1 at *
  go_cut [10] from 11 to 17 (fun iv wx => wx = w1 ∧ Aside (∀ i j, i < n → j < m → f i ≠ g j))
  case first =>
    go_wp2_with fail
    go_loopg [10] n (fun gk iv wr => wr = w1 ∧ ∃ k : Nat, k + gk = n ∧ iv = .int .i64 k ∧ Aside (∀ i j, i < k → j < m → f i ≠ g j))
    case atStart => exact ⟨rfl, 0, by omega, rfl, fun i j h => by omega⟩
    case round =>
      obtain ⟨hw, k, hk, rfl, hno⟩ := hrel
      replace hw := hw.symm
      subst hw
      by_cases hlt : k < n
      · rcases R0.out with h | ⟨b0, o0, rfl, hb0, hx0⟩
        · omega
        have c0 : w1.cell? ⟨b0, o0 + k, none⟩ = some (.string (f k)) := (HW.out.cell hb0 (by simp)).trans (hx0 k hlt)
        clear hx0
        have HC : Hid _ := contains_any a1 m c1 g (f k) w1 hm (Reads.only R1.out HW.out)
        go_wp2_with fail
        refine Calls.mono HC.out ?_
        rintro e w' ⟨⟨rfl, j, hj, hgj⟩ | ⟨rfl, hgj⟩, rfl⟩
        · go_wp2_with fail
          go_ret
          exact ⟨.inr ⟨rfl, k, j, hlt, hj, hgj.symm⟩, HW.out⟩
        · have hno' : Aside (∀ i j, i < k + 1 → j < m → f i ≠ g j) := fun i j hi hj => if h : i = k then h ▸ (Ne.symm (hgj j hj)) else hno.out i j (by omega) hj
          clear hgj
          go_wp2_with fail
          go_roundg (gk - 1)
          case measure => omega
          case rel => exact ⟨rfl, k + 1, by omega, by go_num, hno'⟩
      · obtain rfl : k = n := by omega
        go_wp2_with fail
        go_meet
        case rel => exact ⟨rfl, hno⟩
  case rest =>
    obtain ⟨hw, hno⟩ := hcut
    replace hw := hw.symm
    subst hw
    go_wp2_with fail
    go_ret
    exact ⟨.inl ⟨rfl, fun ⟨i, j, h1, h2, h3⟩ => hno.out i j h1 h2 h3⟩, HW.out⟩

def SharePost (f : Nat → ByteArray) (n : Nat) (g : Nat → ByteArray) (m : Nat) (e : Ending) : Prop := (e = .returned (.bool true) ∧ Share f n g m) ∨ (e = .returned (.bool false) ∧ ¬ Share f n g m)

set_option maxRecDepth 100000 in
set_option maxHeartbeats 1000000 in
theorem shareOne_any (b0 b1 n m : Nat) (f g : Nat → ByteArray) (w : World) (hn : n ≤ 65536) (hm : m ≤ 65536) (uf : Up f 0 n) (ug : Up g 0 m)
    (h0 : Arr w b0 n 9 (fun i => .string (f i))) (h1 : Arr w b1 m 9 (fun i => .string (g i))) :
    Calls Try.prog 9 #[.slice (some ⟨b0, 0, none⟩) n n, .slice (some ⟨b1, 0, none⟩) m m] w fun e w' => SharePost f n g m e ∧ Only [] w w' := by
  have R0 : Hid (Arr w b0 n 9 (fun i => .string (f i))) := h0
  have R1 : Hid (Arr w b1 m 9 (fun i => .string (g i))) := h1
  have UF : Hid _ := uf
  have UG : Hid _ := ug
  clear h0 h1 uf ug
  go_enter Try.func9, Try.ntmps9
  go_upto_block 0 with fail
  go_cut [5, 6] from 7 to 38 (fun iv jv wx => Only [] w wx ∧ Aside (¬ Share f n g m))
  case first =>
    go_wp2_with fail
    go_loopg [5, 6] (n + m) (fun gk iv jv wr => Only [] w wr ∧ ∃ i j : Nat, i ≤ n ∧ j ≤ m ∧ (n - i) + (m - j) = gk ∧ iv = .int .i64 i ∧ jv = .int .i64 j ∧ Aside (NoShare f n g m i j))
    case atStart => exact ⟨Only.refl _ _, 0, 0, by omega, by omega, by omega, rfl, rfl, ⟨fun a b h => by omega, fun a b h => by omega⟩⟩
    case round =>
      obtain ⟨ho, i, j, hi, hj, hg, rfl, rfl, hno⟩ := hrel
      by_cases hin : i < n
      · by_cases hjm : j < m
        · have c0 := (ho.arr R0.out (by simp)).cell hin
          have c1 := (ho.arr R1.out (by simp)).cell hjm
          have hinI : (i : Int) < (n : Int) := by omega
          have hjmI : (j : Int) < (m : Int) := by omega
          by_cases he : f i = g j
          · have hb : ((f i).toList == (g j).toList) = true := by rw [he]; simp
            have HE : Hid (Share f n g m) := ⟨i, j, hin, hjm, he⟩
            clear he
            go_wp2_with fail
            go_quiet (fail)
            go_wp2_with fail
            go_ret
            exact ⟨.inl ⟨rfl, HE.out⟩, ho.drewN _⟩
          · have hb : ((f i).toList == (g j).toList) = false := (Lib.bytes_beq_false_iff _ _).2 he
            cases hl : lt (f i) (g j)
            · have hno' : Aside (NoShare f n g m i (j + 1)) := hno.out.right UF.out he hl
              have hl' : Op.bytesLess (f i).toList (g j).toList = false := hl
              clear he hl
              go_wp2_with fail
              go_quiet (fail)
              go_wp2_with fail
              go_quiet (fail)
              go_wp2_with fail
              go_roundg ((n - i) + (m - (j + 1)))
              case measure => omega
              case rel => exact ⟨ho.drewN _, i, j + 1, by omega, by omega, rfl, rfl, by go_num, hno'⟩
            · have hno' : Aside (NoShare f n g m (i + 1) j) := hno.out.left UG.out hl
              have hl' : Op.bytesLess (f i).toList (g j).toList = true := hl
              clear he hl
              go_wp2_with fail
              go_quiet (fail)
              go_wp2_with fail
              go_quiet (fail)
              go_wp2_with fail
              go_roundg ((n - (i + 1)) + (m - j))
              case measure => omega
              case rel => exact ⟨ho.drewN _, i + 1, j, by omega, by omega, rfl, by go_num, rfl, hno'⟩
        · have HE : Aside (¬ Share f n g m) := hno.out.done (.inr (by omega))
          go_wp2_with fail
          go_meet
          case rel => exact ⟨ho, HE⟩
      · have HE : Aside (¬ Share f n g m) := hno.out.done (.inl (by omega))
        go_wp2_with fail
        go_meet
        case rel => exact ⟨ho, HE⟩
  case rest =>
    obtain ⟨ho, HE⟩ := hcut
    go_wp2_with fail
    go_ret
    exact ⟨.inr ⟨rfl, HE⟩, ho⟩

end Go.Proofs.Qxb6600815a
