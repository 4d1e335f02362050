/- FnCompactRunsAtLastPlace: the walk. -/
import Derived.Test.Qxb6600671aCompact
import Derived.Test.Qxb6600671aLastLaw
import Derived.Test.Qxb6600671aIn
import Derived.BigQuiet
namespace Go.Proofs.Qxb6600671a
open Go.RowKit

set_option maxHeartbeats 400000 in
theorem zzCompact_vc (bn bc bo n m K : Nat) (num : Nat → Int) (ch0 oth : Nat → Bool) (w : World) (hn : n ≤ 1048576) (hm : m ≤ 1048576)
    (hN : Arr w bn n 3 (fun i => .int .i64 (num i))) (hC : Arr w bc n 4 (fun i => .bool (ch0 i))) (hO : Arr w bo m 4 (fun i => .bool (oth i))) (hne : bn ≠ bc)
    (hK0 : cntF ch0 n = K) (hKm : cntF oth m = K) (Out : (Nat → Bool) → Nat → Prop) (Mid : (Nat → Bool) → Nat → Nat → Prop)
    (Dn : (Nat → Bool) → Nat → Nat → Int → Prop) (Bk : (Nat → Bool) → Nat → Nat → Int → Prop) (V : CVC num n K (besideB m K (fun i => (posL oth m).getD i 0)) ch0 Out Mid Dn Bk) :
    Calls Try.prog 27 #[.slice (some ⟨bn, 0, none⟩) n n, .slice (some ⟨bc, 0, none⟩) n n, .slice (some ⟨bo, 0, none⟩) m m] w fun e w' => e = .returned (.tuple #[]) ∧ ∃ ch, Out ch n ∧ Arr w' bc n 4 (fun i => .bool (ch i)) ∧ Only [bc] w w' := by
  have hc := compact_vc bn bc bo n m K num ch0 oth w hn hm hN hC hO hne hK0 hKm Out Mid Dn Bk V
  have HC : Hid _ := hc
  clear hc
  go_enter Try.func27, Try.ntmps27
  go_wp2_with (go_at_call 35; refine Calls.mono HC.out ?_; rintro e w' ⟨rfl, ch, h1, h2, h3⟩)
  go_end0
  exact ⟨rfl, ch, h1, h2, h3⟩

theorem cntT_cntF (f : Nat → Bool) (n : Nat) : n - cntT f n = cntF f n := by
  have h : cntT f n + cntF f n = n := by
    induction n with
    | zero => rfl
    | succ n ih => simp only [cntT, cntF]; split <;> omega
  omega

theorem cntF_false (n : Nat) : cntF (fun _ => false) n = n := by
  induction n with
  | zero => rfl
  | succ n ih => simp [cntF, ih]

theorem posL_false (m i : Nat) (h : i < m) : (posL (fun _ => false) m).getD i 0 = i := by
  induction m with
  | zero => omega
  | succ m ih =>
    have hl : (posL (fun _ => false) m).length = m := by rw [posL_length, cntF_false]
    simp only [posL, Bool.false_eq_true, if_false]
    by_cases him : i < m
    · rw [List.getD_eq_getElem?_getD, List.getElem?_append_left (by omega), ← List.getD_eq_getElem?_getD]
      exact ih him
    · obtain rfl : i = m := by omega
      rw [List.getD_eq_getElem?_getD, List.getElem?_append_right (by omega)]
      simp [hl]

theorem beside_false (m u : Nat) (h : u ≤ m) : besideB m m (fun i => (posL (fun _ => false) m).getD i 0) u = false := by
  unfold besideB
  dsimp only
  by_cases h0 : 0 < u
  · rw [if_pos h0, posL_false m (u - 1) (by omega)]
    by_cases hu : u < m
    · rw [if_pos hu, posL_false m u hu]; simp; omega
    · rw [if_neg hu]; simp; omega
  · obtain rfl : u = 0 := by omega
    by_cases hu : 0 < m
    · rw [if_pos hu, posL_false m 0 hu]; simp
    · rw [if_neg hu]; simp; omega

set_option maxRecDepth 100000 in
set_option maxHeartbeats 1000000 in
theorem last_some (a0 a1 : Option Addr) (n c0 c1 : Nat) (f : Nat → Int) (b : Nat → Bool) (w : World) (hpos : 0 < n) (hb0 : n ≤ 131072) (hb2 : 8 * n + n ≤ 1048576)
    (hn0 : a0 = none → n = 0 ∧ c0 = 0) (hn1 : a1 = none → n = 0 ∧ c1 = 0) (hr0 : Reads w a0 n (fun i => .int .i64 (f i))) (hr1 : Reads w a1 n (fun i => .bool (b i))) :
    Calls Try.prog 10 #[.slice a0 n c0, .slice a1 n c1] w fun e w' => e = .returned (.bool true) ∧ Only [] w w' := by
  have R0 : Hid _ := hr0
  have R1 : Hid _ := hr1
  have N0 : Hid _ := hn0
  have N1 : Hid _ := hn1
  clear hr0 hr1 hn0 hn1
  have hbt := bytes32 a0 a1 n c0 n c1 w (by omega) (by omega)
  go_enter Try.func10, Try.ntmps10
  go_wp2_with fail
  refine hbt.mono ?_
  rintro e w' ⟨r, rfl, rfl, -⟩
  cases r
  · go_wp2_with fail
    go_ret
    exact ⟨rfl, Only.refl _ _⟩
  · go_wp2_with fail
    refine (cloneInts_any a0 n c0 f w' (by omega) N0.out R0.out).mono ?_
    rintro e w1 ⟨ao, rfl, h1, ho1⟩
    obtain ⟨rfl, hA1⟩ : ao = some ⟨w'.heap.size, 0, none⟩ ∧ Arr w1 w'.heap.size n 3 (fun i => .int .i64 (f i)) := by rcases h1 with h1 | h1; omega; exact h1
    go_wp2_with fail
    refine (cloneBools_any a1 n c1 b w1 (by omega) N1.out (Reads.only R1.out ho1)).mono ?_
    rintro e w2 ⟨ao, rfl, h2, ho2⟩
    obtain ⟨rfl, hA2⟩ : ao = some ⟨w1.heap.size, 0, none⟩ ∧ Arr w2 w1.heap.size n 4 (fun i => .bool (b i)) := by rcases h2 with h2 | h2; omega; exact h2
    go_wp2_with fail
    refine (countFalse_any _ n n b w2 (by omega) (Reads.ofArr hA2)).mono ?_
    rintro e w3 ⟨rfl, rfl⟩
    have hmk := run_makeBools w3 (n - cntT b n) (by omega)
    have hO3 := Arr.made w3 4 (madeCells #[.bool false] (n - cntT b n)) (n - cntT b n) (fun _ => .bool false) (size_madeCells _ _) (fun j hj => madeCells_at _ _ _ hj)
    have hN3 := (ho2.arr hA1 (by simp)).alloc (.cells (madeCells #[.bool false] (n - cntT b n)) 4)
    have hC3 := hA2.alloc (.cells (madeCells #[.bool false] (n - cntT b n)) 4)
    have hlt1 := hA1.lt
    have hzc := zzCompact_vc w'.heap.size w1.heap.size w3.heap.size n (n - cntT b n) (n - cntT b n) f b (fun _ => false) _ (by omega) (by omega) hN3 hC3 hO3 (by omega) (cntT_cntF b n).symm (cntF_false _) _ _ _ _ (last_vc f n (n - cntT b n) _ (fun u hu => beside_false _ _ hu) b)
    have HZ : Hid _ := hzc
    have hoA : Only [] w' (w3.alloc (.cells (madeCells #[.bool false] (n - cntT b n)) 4)) := (ho1.trans ho2).alloc _
    have HN : Hid (Arr _ _ _ _ _) := hN3
    clear hzc hO3 hC3 hA1 hA2 ho1 ho2 h1 h2 N0 N1 R0 R1 hbt hN3
    go_wp2_with fail
    refine Calls.mono HZ.out ?_
    rintro e w4 ⟨rfl, ch, hL, hC4, ho4⟩
    have hN4 := ho4.arr HN.out (by simp; omega)
    have hoB : Only [] w' w4 := hoA.transNew ho4 (by simp; omega)
    have HL : Hid _ := hL
    clear hmk HZ HN hoA ho4 hL
    go_wp2_with fail
    go_loopg [7] n (fun gk s wr => ∃ k : Nat, k + gk = n ∧ s = .int .i64 k ∧ Arr wr w'.heap.size n 3 (fun i => .int .i64 (f i)) ∧ Arr wr w1.heap.size n 4 (fun i => .bool (ch i)) ∧ Only [] w' wr)
    case atStart => exact ⟨0, by omega, rfl, hN4, hC4, hoB⟩
    case round =>
      clear hN4 hC4 hoB
      obtain ⟨k, hk, rfl, hN5, hC5, hoB⟩ := hrel
      by_cases hlt : k < n
      · have hck := hC5.cell hlt
        go_upto_region 15 with fail
        obtain ⟨w5, rfl⟩ : ∃ w5 : World, w5 = wr := ⟨_, rfl⟩
        go_cut [68] (fun c wx => wx = w5 ∧ ∃ t : Bool, c = .bool t ∧ Aside (t = false → ch k = true ∧ (k = 0 ∨ ch (k - 1) = false)))
        case first =>
          cases hb : ch k
          · rw [hb] at hck
            go_wp2_with fail
            go_meet
            case rel => exact ⟨rfl, true, rfl, fun h => by cases h⟩
          · rw [hb] at hck
            have HB : Hid (ch k = true) := hb
            clear hb
            by_cases h0 : 0 < k
            · have hck1 := hC5.cell (j := k - 1) (by omega)
              have h0I : (0 : Int) < (k : Int) := by omega
              cases hb1 : ch (k - 1)
              · rw [hb1] at hck1
                have HB1 : Hid (ch (k - 1) = false) := hb1
                clear hb1
                go_wp2_with fail
                go_meet
                case rel => exact ⟨rfl, false, rfl, fun _ => ⟨HB.out, .inr HB1.out⟩⟩
              · rw [hb1] at hck1
                clear hb1
                go_wp2_with fail
                go_meet
                case rel => exact ⟨rfl, true, rfl, fun h => by cases h⟩
            · go_wp2_with fail
              go_meet
              case rel => exact ⟨rfl, false, rfl, fun _ => ⟨HB.out, .inl (by omega)⟩⟩
        case rest =>
          obtain ⟨hw, t, rfl, hT⟩ := hcut
          subst hw
          clear hck
          cases t
          · obtain ⟨hck, hk1⟩ := hT.out rfl
            have HK : Hid (ch k = true ∧ (k = 0 ∨ ch (k - 1) = false)) := ⟨hck, hk1⟩
            clear hck hk1 hT
            go_upto_block 2 with fail
            obtain ⟨w6, rfl⟩ : ∃ w6 : World, w6 = wc := ⟨_, rfl⟩
            go_cut [8] (fun t wx => wx = w6 ∧ ∃ e : Nat, t = .int .i64 e ∧ e ≤ n ∧ Aside (k < e ∧ (∀ j, k ≤ j → j < e → ch j = true) ∧ (e = n ∨ ch e = false)))
            case first =>
              go_wp2_with fail
              go_loopg [8] (n - k) (fun gk t wr => wr = w6 ∧ ∃ e : Nat, k ≤ e ∧ e + gk = n ∧ t = .int .i64 e ∧ Aside (∀ j, k ≤ j → j < e → ch j = true))
              case atStart => exact ⟨rfl, k, Nat.le_refl _, by omega, rfl, fun j h1 h2 => by omega⟩
              case round =>
                obtain ⟨hw, e, hke, heg, rfl, hAll⟩ := hrel
                subst hw
                by_cases he : e < n
                · have hce := hC5.cell he
                  cases hche : ch e
                  · rw [hche] at hce
                    have HE : Aside (k < e ∧ (∀ j, k ≤ j → j < e → ch j = true) ∧ (e = n ∨ ch e = false)) := by
                      refine ⟨?_, hAll.out, .inr hche⟩
                      have : k ≠ e := by rintro rfl; rw [HK.out.1] at hche; cases hche
                      omega
                    clear hche
                    go_wp2_with fail
                    go_meet
                    case rel => exact ⟨rfl, e, rfl, by omega, HE⟩
                  · rw [hche] at hce
                    have HE : Hid (ch e = true) := hche
                    clear hche
                    go_wp2_with fail
                    go_roundg (gk - 1)
                    case measure => omega
                    case rel => exact ⟨rfl, e + 1, by omega, by omega, by go_num, fun j h1 h2 => if h : j = e then h ▸ HE.out else hAll.out j h1 (by omega)⟩
                · have HE : Aside (k < e ∧ (∀ j, k ≤ j → j < e → ch j = true) ∧ (e = n ∨ ch e = false)) := ⟨by omega, hAll.out, .inl (by omega)⟩
                  go_wp2_with fail
                  go_meet
                  case rel => exact ⟨rfl, e, rfl, by omega, HE⟩
            case rest =>
              obtain ⟨hw, e, rfl, hen, hE⟩ := hcut
              subst hw
              by_cases he : e < n
              · have hcn1 := hN5.cell hlt
                have hcn2 := hN5.cell he
                have heI : (e : Int) < (n : Int) := by omega
                have hq : (f k == f e) = false := by
                  obtain ⟨h1, h2, h3⟩ := hE.out
                  rw [beq_eq_false_iff_ne]
                  refine HL.out k e h1 he (by omega) HK.out.2 h2 ?_
                  rcases h3 with h3 | h3
                  · omega
                  · exact h3
                go_wp2_with fail
                go_quiet (fail)
                go_wp2_with fail
                go_roundg (gk - 1)
                case measure => omega
                case rel => exact ⟨k + 1, by omega, by go_num, hN5.keep rfl, hC5.keep rfl, hoB.drewN _⟩
              · have hd : decide ((e : Int) < (n : Int)) = false := decide_eq_false (by omega)
                go_wp2_with fail
                go_quiet (fail)
                go_wp2_with fail
                go_roundg (gk - 1)
                case measure => omega
                case rel => exact ⟨k + 1, by omega, by go_num, hN5.keep rfl, hC5.keep rfl, hoB.drewN _⟩
          · go_wp2_with fail
            go_roundg (gk - 1)
            case measure => omega
            case rel => exact ⟨k + 1, by omega, by go_num, hN5, hC5, hoB⟩
      · go_wp2_with fail
        go_ret
        exact ⟨rfl, hoB⟩

set_option maxRecDepth 100000 in
set_option maxHeartbeats 1000000 in
theorem compact_empty (an ac ao : Option Addr) (cn cc co : Nat) (w : World) :
    Calls Try.prog 35 #[.slice an 0 cn, .slice ac 0 cc, .slice ao 0 co] w fun e w' => e = .returned (.tuple #[]) ∧ Only [] w w' := by
  go_enter Try.func35, Try.ntmps35
  go_wp2
  go_loopg [19] 0 (fun _ i wr => i = .int .i64 0 ∧ Only [] w wr)
  case atStart => exact ⟨rfl, ((Only.refl _ _).alloc _).alloc _⟩
  case round =>
    obtain ⟨rfl, ho⟩ := hrel
    go_wp2
    go_loopg [12] 0 (fun _ i wr => i = .int .i64 0 ∧ Only [] w wr)
    case atStart => exact ⟨rfl, ho⟩
    case round =>
      clear ho
      obtain ⟨rfl, ho⟩ := hrel
      go_wp2
      go_end0
      exact ⟨rfl, ho⟩

set_option maxHeartbeats 400000 in
theorem zzCompact_empty (an ac ao : Option Addr) (cn cc co : Nat) (w : World) :
    Calls Try.prog 27 #[.slice an 0 cn, .slice ac 0 cc, .slice ao 0 co] w fun e w' => e = .returned (.tuple #[]) ∧ Only [] w w' := by
  go_enter Try.func27, Try.ntmps27
  go_wp2_with (go_at_call 35; refine (compact_empty _ _ _ _ _ _ _).mono ?_; rintro e w' ⟨rfl, ho⟩)
  go_end0
  exact ⟨rfl, ho⟩

set_option maxRecDepth 100000 in
set_option maxHeartbeats 1000000 in
theorem last_empty (a0 a1 : Option Addr) (c0 c1 : Nat) (w : World) (hn0 : a0 = none → c0 = 0) (hn1 : a1 = none → c1 = 0) :
    Calls Try.prog 10 #[.slice a0 0 c0, .slice a1 0 c1] w fun e w' => e = .returned (.bool true) ∧ Only [] w w' := by
  have N0 : Hid _ := hn0
  have N1 : Hid _ := hn1
  clear hn0 hn1
  have hbt := bytes32 a0 a1 0 c0 0 c1 w (by omega) (by omega)
  go_enter Try.func10, Try.ntmps10
  go_wp2_with fail
  refine hbt.mono ?_
  rintro e w' ⟨r, rfl, rfl, -⟩
  clear hbt
  cases r
  · go_wp2_with fail
    go_ret
    exact ⟨rfl, Only.refl _ _⟩
  · go_wp2_with fail
    refine (cloneInts_any a0 0 c0 (fun _ => 0) w' (by omega) (fun h => ⟨rfl, N0.out h⟩) (.inl rfl)).mono ?_
    rintro e w1 ⟨ao, rfl, -, ho1⟩
    go_wp2_with fail
    refine (cloneBools_any a1 0 c1 (fun _ => false) w1 (by omega) (fun h => ⟨rfl, N1.out h⟩) (.inl rfl)).mono ?_
    rintro e w2 ⟨ao2, rfl, -, ho2⟩
    go_wp2_with fail
    refine (countFalse_any _ 0 0 (fun _ => false) w2 (by omega) (.inl rfl)).mono ?_
    rintro e w3 ⟨rfl, rfl⟩
    have hmk : (Instr.makeSlice 25 (.int .i64 0) (.int .i64 0)).run Try.prog w3 = .ok (.slice (some ⟨w3.heap.size, 0, none⟩) 0 0) (w3.alloc (.cells (madeCells #[.bool false] 0) 4)) := run_makeBools w3 0 (by omega)
    go_wp2_with fail
    refine (zzCompact_empty _ _ _ _ _ _ _).mono ?_
    rintro e w4 ⟨rfl, ho4⟩
    have ho : Only [] w' w4 := ((ho1.trans ho2).alloc _).trans ho4
    clear hmk ho1 ho2 ho4
    go_wp2_with fail
    go_loopg [7] 0 (fun _ i wr => i = .int .i64 0 ∧ Only [] w' wr)
    case atStart => exact ⟨rfl, ho⟩
    case round =>
      clear ho
      obtain ⟨rfl, ho⟩ := hrel
      go_wp2_with fail
      go_ret
      exact ⟨rfl, ho⟩

/-- THE WALK: whatever comes in. -/
theorem last_any (a0 a1 : Option Addr) (l0 c0 l1 c1 : Nat) (f : Nat → Int) (b : Nat → Bool) (w : World) (hm0 : l0 ≤ maxLen) (hm1 : l1 ≤ maxLen)
    (hn0 : a0 = none → l0 = 0 ∧ c0 = 0) (hn1 : a1 = none → l1 = 0 ∧ c1 = 0) (hr0 : Reads w a0 l0 (fun i => .int .i64 (f i))) (hr1 : Reads w a1 l1 (fun i => .bool (b i))) :
    Calls Try.prog 10 #[.slice a0 l0 c0, .slice a1 l1 c1] w fun e w' => e = .returned (.bool true) ∧ Only [] w w' := by
  unfold maxLen at hm0 hm1
  by_cases hb : l0 ≤ 131072 ∧ l1 ≤ 1048576 ∧ 8 * l0 + l1 ≤ 1048576 ∧ l1 = l0
  · obtain ⟨b0, _, b2, rfl⟩ := hb
    by_cases hz : l1 = 0
    · subst hz
      exact last_empty a0 a1 c0 c1 w (fun h => (hn0 h).2) (fun h => (hn1 h).2)
    · exact last_some a0 a1 l1 c0 c1 f b w (by omega) b0 b2 hn0 hn1 hr0 hr1
  · have hbt := bytes32 a0 a1 l0 c0 l1 c1 w (by omega) (by omega)
    have HB : Hid _ := hb
    clear hr0 hr1 hn0 hn1 hb
    by_cases b0 : l0 ≤ 131072
    · by_cases b1 : l1 ≤ 1048576
      · by_cases b2 : 8 * l0 + l1 ≤ 1048576
        · have hne : ((l1 : Int) != (l0 : Int)) = true := by
            rw [bne_iff_ne]
            intro h
            exact HB.out ⟨b0, b1, b2, by omega⟩
          go_enter Try.func10, Try.ntmps10
          go_wp2_with fail
          refine hbt.mono ?_
          rintro e w' ⟨r, rfl, rfl, -⟩
          cases r <;> (go_wp2_with fail; go_ret; exact ⟨rfl, Only.refl _ _⟩)
        · go_enter Try.func10, Try.ntmps10
          go_wp2_with fail
          refine hbt.mono ?_
          rintro e w' ⟨r, rfl, rfl, -⟩
          cases r <;> (go_wp2_with fail; go_ret; exact ⟨rfl, Only.refl _ _⟩)
      · go_enter Try.func10, Try.ntmps10
        go_wp2_with fail
        refine hbt.mono ?_
        rintro e w' ⟨r, rfl, rfl, -⟩
        cases r <;> (go_wp2_with fail; go_ret; exact ⟨rfl, Only.refl _ _⟩)
    · go_enter Try.func10, Try.ntmps10
      go_wp2_with fail
      refine hbt.mono ?_
      rintro e w' ⟨r, rfl, rfl, -⟩
      cases r <;> (go_wp2_with fail; go_ret; exact ⟨rfl, Only.refl _ _⟩)

end Go.Proofs.Qxb6600671a
