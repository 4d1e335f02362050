/- FnCompactSingleRunExact: the walk. -/
import Derived.Test.Qxb6600671aCompactO
import Derived.Test.Qxb6600671aSingleRun
import Derived.Test.Qxb6600671aSingleBes
namespace Go.Proofs.Qxb6600671a
open Go.RowKit

theorem cntT_F (f : Nat → Bool) (n : Nat) : n - cntT f n = cntF f n := by
  have h : cntT f n + cntF f n = n := by
    induction n with
    | zero => rfl
    | succ n ih => simp only [cntT, cntF]; split <;> omega
  omega

theorem isBlk_cntF {n l : Nat} {ch : Nat → Bool} {s : Nat} (h : IsBlk n l ch s) (hn : s + l ≤ n) : cntF ch n = n - l := by
  have h1 : cntF ch s = s := isBlk_cnt h (by omega)
  have h2 : cntF ch (s + l) = s := by rw [cntF_run (i := s) (by omega) (fun k a b => by rw [h k (by omega)]; exact Blk_true.2 ⟨a, b⟩), h1]
  have h3 : ∀ d, s + l + d ≤ n → cntF ch (s + l + d) = s + d := by
    intro d
    induction d with
    | zero => intro _; simpa using h2
    | succ d ih =>
      intro hd
      have h4 := ih (by omega)
      have h5 : ch (s + l + d) = false := by rw [h _ (by omega)]; exact Blk_false.2 (by omega)
      rw [show s + l + (d + 1) = (s + l + d) + 1 by omega]
      simp only [cntF, h5, h4]
      simp
      omega
  have := h3 (n - (s + l)) (by omega)
  rw [show s + l + (n - (s + l)) = n by omega] at this
  omega

/-- Nothing but draws lies between. -/
def SameW (a b : World) : Prop := b.heap = a.heap ∧ Only [] a b

theorem SameW.refl (a : World) : SameW a a := ⟨rfl, Only.refl _ _⟩
theorem SameW.drewN {a b : World} (h : SameW a b) (q : Nat) : SameW a (b.drewN q) := ⟨h.1, h.2.drewN q⟩
theorem SameW.arr {a b : World} (h : SameW a b) {k n : Nat} {e : TypeId} {f : Nat → Value} (ha : Arr a k n e f) : Arr b k n e f := ha.keep (by rw [h.1])

theorem restAt_any (bn n s l i : Nat) (num : Nat → Int) (w : World) (hn : n ≤ 1048576) (hs : s + l ≤ n) (hi : i + l < n) (hN : Arr w bn n 3 (fun i => .int .i64 (num i))) :
    Calls Try.prog 28 #[.slice (some ⟨bn, 0, none⟩) n n, .int .i64 s, .int .i64 l, .int .i64 i] w fun e w' => e = .returned (.int .i64 (restV num s l i)) ∧ w' = w := by
  by_cases h : i < s
  · unfold restV; rw [if_pos h]
    exact restAt_lo bn n s l i num w hn h hs (hN.cell (by omega))
  · unfold restV; rw [if_neg h]
    exact restAt_hi bn n s l i num w hn (by omega) hi (hN.cell hi)

theorem run_makeBes (K : Nat) (h : K ≤ 1048576) (w : World) : (Instr.makeSlice 25 (.int .i64 ((K : Int) + 1)) (.int .i64 ((K : Int) + 1))).run Try.prog w =
    .ok (.slice (some ⟨w.heap.size, 0, none⟩) (K + 1) (K + 1)) (w.alloc (.cells (madeCells #[.bool false] (K + 1)) 4)) := by
  have := run_makeBools w (K + 1) (by omega)
  rw [show ((K + 1 : Nat) : Int) = (K : Int) + 1 by omega] at this
  exact this

theorem bes_true {oth : Nat → Bool} {j K : Nat} {BS : Nat → Bool} (h : ∀ t, t ≤ K → BS t = bes oth j t) (ho : oth j = true) : ∀ t, t ≤ K → updB BS (cntF oth j) true t = bes oth (j + 1) t := by
  intro t ht
  simp only [bes, ho, Bool.true_and]
  by_cases he : t = cntF oth j
  · rw [he, updB_same]; simp
  · rw [updB_other _ _ he, h t ht]
    have : (cntF oth j == t) = false := by rw [beq_eq_false_iff_ne]; exact Ne.symm he
    simp [this]

theorem bes_no {oth : Nat → Bool} {j K : Nat} {BS : Nat → Bool} (h : ∀ t, t ≤ K → BS t = bes oth j t) (ho : oth j = false) : ∀ t, t ≤ K → BS t = bes oth (j + 1) t := by
  intro t ht
  simp only [bes, ho, Bool.false_and, Bool.or_false]
  exact h t ht

theorem tgt_congr {bo bo' : Nat → Bool} {lo hi t : Nat} (h : ∀ u, u ≤ hi → bo u = bo' u) (ht : Tgt bo lo hi t) : Tgt bo' lo hi t := by
  obtain ⟨h1, h2, h3⟩ := ht
  refine ⟨h1, h2, ?_⟩
  rcases h3 with ⟨h3, h4⟩ | ⟨h3, h4⟩
  · exact .inl ⟨by rw [← h t h2]; exact h3, fun u a b => by rw [← h u b]; exact h4 u a b⟩
  · exact .inr ⟨h3, fun u a b => by rw [← h u b]; exact h4 u a b⟩

set_option maxRecDepth 100000 in
set_option maxHeartbeats 4000000 in
theorem single_in (a0 a1 a2 : Option Addr) (n c0 c1 m c2 : Nat) (num : Nat → Int) (ch0 oth : Nat → Bool) (w : World) (hn : n ≤ 131072) (hm : m ≤ 1048576) (hs : 8 * n + n + m ≤ 1048576)
    (hn0 : a0 = none → n = 0 ∧ c0 = 0) (hn1 : a1 = none → n = 0 ∧ c1 = 0) (hn2 : a2 = none → m = 0 ∧ c2 = 0)
    (hr0 : Reads w a0 n (fun i => .int .i64 (num i))) (hr1 : Reads w a1 n (fun i => .bool (ch0 i))) (hr2 : Reads w a2 m (fun i => .bool (oth i))) :
    Calls Try.prog 8 #[.slice a0 n c0, .slice a1 n c1, .slice a2 m c2] w fun e w' => e = .returned (.bool true) ∧ Only [] w w' := by
  have R0 : Hid _ := hr0
  have R1 : Hid _ := hr1
  have R2 : Hid _ := hr2
  have N0 : Hid _ := hn0
  have N1 : Hid _ := hn1
  have N2 : Hid _ := hn2
  clear hr0 hr1 hr2 hn0 hn1 hn2
  have hbt := bytes23 a0 a1 a2 n c0 n c1 m c2 w (by omega) (by omega) (by omega)
  go_enter Try.func8, Try.ntmps8
  go_wp2_with fail
  refine hbt.mono ?_
  rintro e w' ⟨r, rfl, rfl⟩
  clear hbt
  cases r
  · go_wp2_with fail
    go_ret
    exact ⟨rfl, Only.refl _ _⟩
  · go_wp2_with fail
    refine (singleRun_any a1 n c1 ch0 w' (by omega) R1.out).mono ?_
    rintro e w1 ⟨h | ⟨s0, l, rfl, hl, hf, hB⟩, rfl⟩
    · subst h
      go_wp2_with fail
      go_ret
      exact ⟨rfl, Only.refl _ _⟩
    · have HB : Hid _ := hB
      clear hB
      go_wp2_with fail
      refine (countFalse_any a1 n c1 ch0 w1 (by omega) R1.out).mono ?_
      rintro e w2 ⟨rfl, rfl⟩
      go_wp2_with fail
      refine (countFalse_any a2 m c2 oth w2 (by omega) R2.out).mono ?_
      rintro e w3 ⟨rfl, rfl⟩
      rw [cntT_F, cntT_F]
      have e1 : cntF ch0 n = n - l := isBlk_cntF HB.out hf
      have e2 := cntF_le oth m
      rw [e1]
      by_cases hK : cntF oth m = n - l
      · rw [hK]
        have HK : Hid (cntF ch0 n = n - l ∧ cntF oth m = n - l) := ⟨e1, hK⟩
        clear e1 hK e2
        go_wp2_with fail
        refine (cloneInts_any a0 n c0 num w3 (by omega) N0.out R0.out).mono ?_
        rintro e w4 ⟨ao, rfl, h1', ho1⟩
        obtain ⟨rfl, hA1⟩ : ao = some ⟨w3.heap.size, 0, none⟩ ∧ Arr w4 w3.heap.size n 3 (fun i => .int .i64 (num i)) := by rcases h1' with h1' | h1'; omega; exact h1'
        go_wp2_with fail
        refine (cloneBools_any a1 n c1 ch0 w4 (by omega) N1.out (Reads.only R1.out ho1)).mono ?_
        rintro e w5 ⟨ao, rfl, h2', ho2⟩
        obtain ⟨rfl, hA2⟩ : ao = some ⟨w4.heap.size, 0, none⟩ ∧ Arr w5 w4.heap.size n 4 (fun i => .bool (ch0 i)) := by rcases h2' with h2' | h2'; omega; exact h2'
        go_wp2_with fail
        refine (cloneBools_any a2 m c2 oth w5 (by omega) N2.out (Reads.only R2.out (ho1.trans ho2))).mono ?_
        rintro e w6 ⟨ob, rfl, h3', ho3⟩
        have hO : 0 < m → ∃ bo, ob = some ⟨bo, 0, none⟩ ∧ bo ≠ w4.heap.size ∧ Arr w6 bo m 4 (fun i => .bool (oth i)) := fun p => by
          rcases h3' with h | ⟨h, h4⟩
          · omega
          · exact ⟨_, h, by have := hA2.lt; omega, h4⟩
        have hne : w3.heap.size ≠ w4.heap.size := by have := hA1.lt; omega
        obtain ⟨lo, hi, BD⟩ := band_exists num n l s0 hl hf
        have hzc := zzCompact_vcO w3.heap.size w4.heap.size n m (n - l) ob num ch0 oth w6 (by omega) (by omega) (ho3.arr (ho2.arr hA1 (by simp)) (by simp)) (ho3.arr hA2 (by simp)) (fun p => by obtain ⟨bo, x1, -, x2⟩ := hO p; exact ⟨bo, x1, x2⟩) hne HK.out.1 HK.out.2 _ _ _ _
          (single_vc num n (n - l) l s0 lo hi _ ch0 BD HB.out)
        have HZ : Hid _ := hzc
        have hN6 := ho3.arr (ho2.arr hA1 (by simp)) (by simp)
        have hoA : Only [] w3 w6 := (ho1.trans ho2).trans ho3
        have h4s := ho1.size
        clear hzc h1' h2' h3' ho1 ho2 ho3 hA1 hA2 R0 R1 R2 N0 N1 N2
        go_wp2_with fail
        refine Calls.mono HZ.out ?_
        rintro e w7 ⟨rfl, ch, hout, hC7, ho7⟩
        obtain ⟨T, hT, hBT⟩ := sout_end hf hl hout
        have hN7 := ho7.arr hN6 (by simpa using hne)
        have hO7 : 0 < m → ∃ bo, ob = some ⟨bo, 0, none⟩ ∧ Arr w7 bo m 4 (fun i => .bool (oth i)) := fun p => by
          obtain ⟨bo, x1, x2, x3⟩ := hO p
          exact ⟨bo, x1, ho7.arr x3 (by simpa using x2)⟩
        have hoB : Only [] w3 w7 := hoA.transNew ho7 (by simp; omega)
        clear HZ hout ho7 hN6 hO hoA
        go_upto_region 19 with fail
        obtain ⟨K, hKn⟩ : ∃ K, K = n - l := ⟨_, rfl⟩
        rw [show ((s0 : Int) + l - s0) = l by omega, show ((n : Int) - l) = K by omega, ← hKn]
        have hT' : Tgt (bes oth m) lo hi T := tgt_congr (fun u hu => besideB_bes oth m (n - l) u HK.out.2 (by have := BD.hi_le; omega)) hT
        have hKm : cntF oth m = K := by rw [hKn]; exact HK.out.2
        have b1 := BD.lo_le
        have b2 := BD.le_hi
        have b3 := BD.hi_le
        have HT : Hid (Tgt (bes oth m) lo hi T ∧ IsBlk n l ch T) := ⟨hT', hBT⟩
        have HD : Hid (Band num n l s0 lo hi) := BD
        have HM : Hid (cntF oth m = K) := hKm
        have hTK : T ≤ hi := hT'.2.1
        have hK1 : K + l ≤ n := by omega
        have hK2 : n ≤ K + l := by omega
        clear hT hT' hBT BD hKm HK HB hKn
        generalize w3.heap.size = bn at *
        generalize w4.heap.size = bc at *
        have HO : Hid (0 < m → ∃ bo, ob = some ⟨bo, 0, none⟩ ∧ Arr w7 bo m 4 (fun i => .bool (oth i))) := hO7
        have HN : Hid (Arr w7 bn n 3 (fun i => .int .i64 (num i))) := hN7
        have HC : Hid (Arr w7 bc n 4 (fun i => .bool (ch i))) := hC7
        have HOB : Hid (Only [] w3 w7) := hoB
        clear hO7 hN7 hC7 hoB h4s hne
        have HR : Hid (∀ (i : Nat) (wx : World), i + l < n → wx.heap = w7.heap → Calls Try.prog 28 #[.slice (some ⟨bn, 0, none⟩) n n, .int .i64 s0, .int .i64 l, .int .i64 i] wx fun e w' => e = .returned (.int .i64 (restV num s0 l i)) ∧ w' = wx) :=
          fun i wx hi hw => restAt_any bn n s0 l i num _ (by omega) hf hi (HN.out.keep (by rw [hw]))
        go_upto_block 0 with fail
        go_cut [13] from 89 to 105 (fun pv wx => pv = .int .i64 (hi : Nat) ∧ SameW w7 wx)
        case first =>
          go_wp2_with fail
          go_loopg [13] hi (fun gk pv wr => ∃ k : Nat, k + gk = hi ∧ pv = .int .i64 k ∧ SameW w7 wr)
          case atStart => exact ⟨0, by omega, rfl, SameW.refl _⟩
          case round =>
            obtain ⟨k, hk, rfl, hS⟩ := hrel
            have HNr : Hid (Arr wr bn n 3 (fun i => .int .i64 (num i))) := hS.arr HN.out
            by_cases hlt : k < hi
            · have c1 := HNr.out.cell (j := k) (by omega)
              have hb : (num k == restV num s0 l k) = true := by rw [beq_iff_eq]; exact band_p HD.out hlt
              have HR' : Hid _ := fun qq => HR.out k (wr.drewN qq) (by omega) hS.1
              have hkK : (k : Int) < (K : Int) := by omega
              have hkn : (k : Int) < (n : Int) := by omega
              go_wp2_with fail
              go_quiet ((go_at_call 28; exact Calls.quiet_of_same (HR'.out _)))
              go_wp2_with fail
              go_roundg (gk - 1)
              case measure => omega
              case rel => exact ⟨k + 1, by omega, by go_num, hS.drewN _⟩
            · obtain rfl : k = hi := by omega
              by_cases hkl : k + l < n
              · have c1 := HNr.out.cell (j := k) (by omega)
                have hb : (num k == restV num s0 l k) = false := by rw [beq_eq_false_iff_ne]; exact band_p_end HD.out hkl
                have HR' : Hid _ := fun qq => HR.out k (wr.drewN qq) hkl hS.1
                have hkK : (k : Int) < (K : Int) := by omega
                have hkn : (k : Int) < (n : Int) := by omega
                go_wp2_with fail
                go_quiet ((go_at_call 28; exact Calls.quiet_of_same (HR'.out _)))
                go_wp2_with fail
                go_meet
                case rel => exact ⟨rfl, hS.drewN _⟩
              · have hd : decide ((k : Int) < (K : Int)) = false := decide_eq_false (by omega)
                have hd2 : ¬ k < K := by omega
                go_wp2_with fail
                go_quiet (fail)
                go_wp2_with fail
                go_meet
                case rel => exact ⟨rfl, hS.drewN _⟩
        case rest =>
          obtain ⟨rfl, hS⟩ := hcut
          go_upto_block 2 with fail
          go_cut [14] from 106 to 128 (fun qv wx => qv = .int .i64 ((K : Int) - lo) ∧ SameW w7 wx)
          case first =>
            go_wp2_with fail
            go_loopg [14] (K - lo) (fun gk qv wr => ∃ k : Nat, k + gk = K - lo ∧ qv = .int .i64 k ∧ SameW w7 wr)
            case atStart => exact ⟨0, by omega, rfl, hS⟩
            case round =>
              clear hS
              obtain ⟨k, hk, rfl, hS⟩ := hrel
              have HNr : Hid (Arr wr bn n 3 (fun i => .int .i64 (num i))) := hS.arr HN.out
              by_cases hkK : k < K
              · obtain ⟨i, hi1⟩ : ∃ i, i = K - 1 - k := ⟨_, rfl⟩
                have e1 : ((K : Int) - 1 - k) = (i : Int) := by omega
                have e2 : ((n : Int) - 1 - k) = ((i + l : Nat) : Int) := by omega
                have c1 := HNr.out.cell (j := i + l) (by omega)
                have HR' : Hid _ := fun qq => HR.out i (wr.drewN qq) (by omega) hS.1
                have hkI : (k : Int) < (K : Int) := by omega
                have i0 : (0 : Int) ≤ (n : Int) - 1 - k := by omega
                have i1 : (n : Int) - 1 - k < (n : Int) := by omega
                have i2 : ((n : Int) - 1 - k).toNat = i + l := by omega
                have hil : i + l < n := by omega
                by_cases hlt : k < K - lo
                · have hb : (num (i + l) == restV num s0 l i) = true := by rw [beq_iff_eq]; exact band_q HD.out (by omega)
                  clear hi1
                  go_wp2_with fail
                  go_quiet ((go_at_call 28; exact Calls.quiet_of_same (HR'.out _)))
                  go_wp2_with fail
                  go_roundg (gk - 1)
                  case measure => omega
                  case rel => exact ⟨k + 1, by omega, by go_num, hS.drewN _⟩
                · have hil' : i = lo - 1 := by omega
                  have hb : (num (i + l) == restV num s0 l i) = false := by rw [beq_eq_false_iff_ne, hil']; exact band_q_end HD.out (by omega)
                  clear hi1 hil'
                  go_wp2_with fail
                  go_quiet ((go_at_call 28; exact Calls.quiet_of_same (HR'.out _)))
                  go_wp2_with fail
                  go_meet
                  case rel => exact ⟨by rw [show (k : Int) = (K : Int) - lo by omega], hS.drewN _⟩
              · have hd : decide ((k : Int) < (K : Int)) = false := decide_eq_false (by omega)
                go_wp2_with fail
                go_quiet (fail)
                go_wp2_with fail
                go_meet
                case rel => exact ⟨by rw [show (k : Int) = (K : Int) - lo by omega], hS.drewN _⟩
          case rest =>
            obtain ⟨rfl, hS⟩ := hcut
            go_upto_region 27 with fail
            rw [show ((K : Int) - ((K : Int) - lo)) = lo by omega]
            have HO8 : Hid (0 < m → ∃ bo, ob = some ⟨bo, 0, none⟩ ∧ Arr wc bo m 4 (fun i => .bool (oth i))) := fun p => by
              obtain ⟨bo, x1, x2⟩ := HO.out p
              exact ⟨bo, x1, hS.arr x2⟩
            have HC8 : Hid (Arr wc bc n 4 (fun i => .bool (ch i))) := hS.arr HC.out
            have HO9 : Hid (Only [] w3 wc) := HOB.out.trans hS.2
            clear HO HC HN HR HOB hS HD
            have hmk := run_makeBes K (by omega) wc
            have HMB : Hid (Arr (wc.alloc (.cells (madeCells #[.bool false] (K + 1)) 4)) wc.heap.size (K + 1) 4 (fun _ => .bool false)) := Arr.made wc 4 _ _ _ (size_madeCells _ _) (fun j hj => madeCells_at _ _ _ hj)
            go_upto_block 4 with fail
            clear hmk
            obtain ⟨w8, hw8⟩ : ∃ w8 : World, w8 = wc := ⟨_, rfl⟩
            subst hw8
            go_cut [18, 19] from 136 to 150 (fun uv jv wx => ∃ BS : Nat → Bool, Aside (∀ t, t ≤ K → BS t = bes oth m t) ∧ Arr wx w8.heap.size (K + 1) 4 (fun i => .bool (BS i)) ∧ Only [] w8 wx)
            case first =>
              go_wp2_with fail
              go_loopg [18, 19] m (fun gk uv jv wr => ∃ (j : Nat) (BS : Nat → Bool), j + gk = m ∧ uv = .int .i64 (cntF oth j : Nat) ∧ jv = .int .i64 j ∧ Aside (∀ t, t ≤ K → BS t = bes oth j t) ∧ Arr wr w8.heap.size (K + 1) 4 (fun i => .bool (BS i)) ∧ Only [] w8 wr)
              case atStart => exact ⟨0, fun _ => false, by omega, rfl, rfl, fun t _ => rfl, HMB.out, (Only.refl _ _).alloc _⟩
              case round =>
                obtain ⟨j, BS, hj, rfl, rfl, hBS, hA, ho⟩ := hrel
                by_cases hjm : j < m
                · obtain ⟨bo, rfl, hO8⟩ := HO8.out (by omega)
                  have c1 := (ho.arr hO8 (by simp)).cell hjm
                  have hcK : cntF oth j ≤ K := by rw [← HM.out]; exact cntF_mono oth (by omega)
                  cases hoj : oth j
                  · rw [hoj] at c1
                    have hBS' : Aside (∀ t, t ≤ K → BS t = bes oth (j + 1) t) := bes_no hBS.out hoj
                    have HCS : Hid (cntF oth (j + 1) = cntF oth j + 1) := cntF_step hoj
                    clear hoj hO8
                    generalize cntF oth j = v at *
                    go_wp2_with fail
                    go_roundg (gk - 1)
                    case measure => omega
                    case rel => exact ⟨j + 1, BS, by omega, by rw [HCS.out]; go_num, by go_num, hBS', hA, ho⟩
                  · rw [hoj] at c1
                    have hBS' : Aside (∀ t, t ≤ K → updB BS (cntF oth j) true t = bes oth (j + 1) t) := bes_true hBS.out hoj
                    have HCS : Hid (cntF oth (j + 1) = cntF oth j) := by simp [Hid, cntF, hoj]
                    have c2 := hA.cell (j := cntF oth j) (by omega)
                    have c3 := hA.frozen (cntF oth j)
                    have HA' : Hid (Arr (wr.setCell ⟨w8.heap.size, cntF oth j, none⟩ (.bool true)) w8.heap.size (K + 1) 4 (fun i => .bool (updB BS (cntF oth j) true i))) := (hA.set (cntF oth j) (.bool true)).congr (fun i _ => bools_upd BS _ true i)
                    have HO' : Hid (Only [] w8 (wr.setCell ⟨w8.heap.size, cntF oth j, none⟩ (.bool true))) := ho.setCell (p := ⟨w8.heap.size, cntF oth j, none⟩) (fun h => by simp at h) _
                    clear hoj hO8
                    generalize cntF oth j = v at *
                    go_wp2_with fail
                    go_roundg (gk - 1)
                    case measure => omega
                    case rel => exact ⟨j + 1, updB BS v true, by omega, by rw [HCS.out], by go_num, hBS', HA'.out, HO'.out⟩
                · obtain rfl : j = m := by omega
                  go_wp2_with fail
                  go_meet
                  case rel => exact ⟨BS, hBS, hA, ho⟩
            case rest =>
              obtain ⟨BS, hBS, hA, ho⟩ := hcut
              have HA : Hid (Arr wc w8.heap.size (K + 1) 4 (fun i => .bool (BS i))) := hA
              have HC9 : Hid (Arr wc bc n 4 (fun i => .bool (ch i))) := ho.arr HC8.out (by simp)
              have HO10 : Hid (Only [] w3 wc) := HO9.out.trans ho
              clear hA ho HO9 HC8 HO8 HMB
              go_upto_block 6 with fail
              obtain ⟨w9, hw9⟩ : ∃ w9 : World, w9 = wc := ⟨_, rfl⟩
              subst hw9
              go_cut [20, 21] from 153 to 162 (fun tg tv wx => wx = w9 ∧ tg = .int .i64 (T : Nat))
              case first =>
                go_wp2_with fail
                go_loopg [20, 21] (hi + 1 - lo) (fun gk tg tv wr => wr = w9 ∧ lo + gk ≤ hi + 1 ∧ tg = .int .i64 (hi : Nat) ∧ tv = .int .i64 ((lo : Int) + gk - 1) ∧ Aside (∀ u, lo + gk ≤ u → u ≤ hi → bes oth m u = false))
                case atStart => exact ⟨rfl, by omega, rfl, by rw [show ((lo : Int) + (hi + 1 - lo : Nat) - 1) = hi by omega], fun u h1 h2 => by omega⟩
                case round =>
                  obtain ⟨rfl, hle, rfl, rfl, hU⟩ := hrel
                  by_cases hg : gk = 0
                  · subst hg
                    have hTT : T = hi := tgt_uniq HT.out.1 ⟨by omega, Nat.le_refl _, .inr ⟨rfl, fun u h1 h2 => hU.out u (by omega) h2⟩⟩
                    have hlo : (lo : Int) + (0 : Nat) - 1 < lo := by omega
                    go_wp2_with fail
                    go_meet
                    case rel => exact ⟨rfl, by rw [hTT]⟩
                  · obtain ⟨g, rfl⟩ : ∃ g, gk = g + 1 := ⟨gk - 1, by omega⟩
                    have hgl : lo + g ≤ hi := by omega
                    have c1 := HA.out.cell (j := lo + g) (by omega)
                    rw [hBS.out (lo + g) (by omega)] at c1
                    rw [show ((lo : Int) + (g + 1 : Nat) - 1) = ((lo + g : Nat) : Int) by omega]
                    cases hb : bes oth m (lo + g)
                    · rw [hb] at c1
                      have hU' : Aside (∀ u, lo + g ≤ u → u ≤ hi → bes oth m u = false) := fun u h1 h2 => if h : u = lo + g then h ▸ hb else hU.out u (by omega) h2
                      clear hb
                      go_wp2_with fail
                      go_roundg g
                      case measure => omega
                      case rel => exact ⟨rfl, by omega, rfl, by go_num, hU'⟩
                    · rw [hb] at c1
                      have hTT : T = lo + g := tgt_uniq HT.out.1 ⟨by omega, hgl, .inl ⟨hb, fun u h1 h2 => hU.out u (by omega) h2⟩⟩
                      clear hb
                      go_wp2_with fail
                      go_meet
                      case rel => exact ⟨rfl, by rw [hTT]⟩
              case rest =>
                obtain ⟨rfl, rfl⟩ := hcut
                go_upto_block 8 with fail
                obtain ⟨w9, hw9⟩ : ∃ w9 : World, w9 = wc := ⟨_, rfl⟩
                subst hw9
                go_cut [22] from 163 to 182 (fun iv wx => wx = w9)
                case first =>
                  go_wp2_with fail
                  go_loopg [22] n (fun gk iv wr => wr = w9 ∧ ∃ k : Nat, k + gk = n ∧ iv = .int .i64 k)
                  case atStart => exact ⟨rfl, 0, by omega, rfl⟩
                  case round =>
                    obtain ⟨rfl, k, hk, rfl⟩ := hrel
                    by_cases hkn : k < n
                    · have c1 := HC9.out.cell (j := k) hkn
                      rw [HT.out.2 k hkn] at c1
                      by_cases h1 : T ≤ k
                      · by_cases h2 : k < T + l
                        · rw [Blk_true.2 ⟨h1, h2⟩] at c1
                          have h1' : (T : Int) ≤ k := by omega
                          have h2' : (k : Int) < (T : Int) + l := by omega
                          go_wp2_with fail
                          go_roundg (gk - 1)
                          case measure => omega
                          case rel => exact ⟨rfl, k + 1, by omega, by go_num⟩
                        · rw [Blk_false.2 (fun h => h2 h.2)] at c1
                          have h1' : (T : Int) ≤ k := by omega
                          have h2' : ¬ (k : Int) < (T : Int) + l := by omega
                          go_wp2_with fail
                          go_roundg (gk - 1)
                          case measure => omega
                          case rel => exact ⟨rfl, k + 1, by omega, by go_num⟩
                      · rw [Blk_false.2 (fun h => h1 h.1)] at c1
                        have h1' : ¬ (T : Int) ≤ k := by omega
                        go_wp2_with fail
                        go_roundg (gk - 1)
                        case measure => omega
                        case rel => exact ⟨rfl, k + 1, by omega, by go_num⟩
                    · obtain rfl : k = n := by omega
                      go_wp2_with fail
                      go_meet
                      case rel => exact rfl
                case rest =>
                  subst hcut
                  go_wp2_with fail
                  go_ret
                  exact ⟨rfl, HO10.out⟩
      · have hb : ((((n - l : Nat)) : Int) != ((cntF oth m : Nat) : Int)) = true := by
          simp; omega
        clear hK e1
        go_wp2_with fail
        go_ret
        exact ⟨rfl, Only.refl _ _⟩

set_option maxRecDepth 100000 in
set_option maxHeartbeats 2000000 in
/-- THE WALK: whatever comes in. -/
theorem single_any (a0 a1 a2 : Option Addr) (l0 c0 l1 c1 l2 c2 : Nat) (f : Nat → Int) (g h : Nat → Bool) (w : World) (hm0 : l0 ≤ maxLen) (hm1 : l1 ≤ maxLen) (hm2 : l2 ≤ maxLen)
    (hn0 : a0 = none → l0 = 0 ∧ c0 = 0) (hn1 : a1 = none → l1 = 0 ∧ c1 = 0) (hn2 : a2 = none → l2 = 0 ∧ c2 = 0)
    (hr0 : Reads w a0 l0 (fun i => .int .i64 (f i))) (hr1 : Reads w a1 l1 (fun i => .bool (g i))) (hr2 : Reads w a2 l2 (fun i => .bool (h i))) :
    Calls Try.prog 8 #[.slice a0 l0 c0, .slice a1 l1 c1, .slice a2 l2 c2] w fun e w' => e = .returned (.bool true) ∧ Only [] w w' := by
  unfold maxLen at hm0 hm1 hm2
  by_cases hin : l0 ≤ 131072 ∧ l1 ≤ 1048576 ∧ l2 ≤ 1048576 ∧ 8 * l0 + l1 + l2 ≤ 1048576
  · by_cases he : l1 = l0
    · subst he
      obtain ⟨b0, b1, b2, b3⟩ := hin
      exact single_in a0 a1 a2 l1 c0 c1 l2 c2 f g h w b0 b2 b3 hn0 hn1 hn2 hr0 hr1 hr2
    · obtain ⟨b0, b1, b2, b3⟩ := hin
      have hbt := bytes23 a0 a1 a2 l0 c0 l1 c1 l2 c2 w (by omega) (by omega) (by omega)
      clear hr0 hr1 hr2 hn0 hn1 hn2
      have hb : ((l1 : Int) != (l0 : Int)) = true := by simp; omega
      go_enter Try.func8, Try.ntmps8
      go_wp2_with fail
      refine hbt.mono ?_
      rintro e w' ⟨r, rfl, rfl⟩
      cases r <;> (go_wp2_with fail; go_ret; exact ⟨rfl, Only.refl _ _⟩)
  · have hbt := bytes23 a0 a1 a2 l0 c0 l1 c1 l2 c2 w (by omega) (by omega) (by omega)
    clear hr0 hr1 hr2 hn0 hn1 hn2
    by_cases b0 : l0 ≤ 131072
    · by_cases b1 : l1 ≤ 1048576
      · by_cases b2 : l2 ≤ 1048576
        · have b3 : ¬ 8 * l0 + l1 + l2 ≤ 1048576 := fun h => hin ⟨b0, b1, b2, h⟩
          clear hin
          go_enter Try.func8, Try.ntmps8
          go_wp2_with fail
          refine hbt.mono ?_
          rintro e w' ⟨r, rfl, rfl⟩
          cases r <;> (go_wp2_with fail; go_ret; exact ⟨rfl, Only.refl _ _⟩)
        · clear hin
          go_enter Try.func8, Try.ntmps8
          go_wp2_with fail
          refine hbt.mono ?_
          rintro e w' ⟨r, rfl, rfl⟩
          cases r <;> (go_wp2_with fail; go_ret; exact ⟨rfl, Only.refl _ _⟩)
      · clear hin
        go_enter Try.func8, Try.ntmps8
        go_wp2_with fail
        refine hbt.mono ?_
        rintro e w' ⟨r, rfl, rfl⟩
        cases r <;> (go_wp2_with fail; go_ret; exact ⟨rfl, Only.refl _ _⟩)
    · clear hin
      go_enter Try.func8, Try.ntmps8
      go_wp2_with fail
      refine hbt.mono ?_
      rintro e w' ⟨r, rfl, rfl⟩
      cases r <;> (go_wp2_with fail; go_ret; exact ⟨rfl, Only.refl _ _⟩)

end Go.Proofs.Qxb6600671a
