/- FnCertifyExactWhereNothingIsOverfull: the walk. -/
import Derived.Test.Qxb6601548aRunC
namespace Go.Proofs.Qxb6601548a
open Go.RowKit

theorem ReadsO.ofClone {w w' : World} {ao : Option Addr} {len : Nat} {e : TypeId} {f : Nat → Value} (h : (ao = none ∧ len = 0) ∨ ao = some ⟨w.heap.size, 0, none⟩ ∧ Arr w' w.heap.size len e f) : ReadsO [] w' ao len f := by
  rcases h with h | ⟨h, ha⟩
  · exact .inl h
  · exact .inr ⟨_, h, ha.lt, by simp, fun i hi => ha.cell hi⟩

set_option maxRecDepth 100000 in
set_option maxHeartbeats 40000000 in
theorem law_any (a0 a1 a2 a3 a4 a5 : Option Addr) (l0 c0 l1 c1 l2 c2 l3 c3 l4 c4 l5 c5 : Nat) (f0 : Nat → Nat) (f1 f2 f3 f4 : Nat → Int) (f5 : Nat → Nat) (W : World)
    (hm0 : l0 ≤ 9223372036854775807) (hm1 : l1 ≤ 9223372036854775807) (hm2 : l2 ≤ 9223372036854775807) (hm3 : l3 ≤ 9223372036854775807) (hm4 : l4 ≤ 9223372036854775807) (hm5 : l5 ≤ 9223372036854775807)
    (hn0 : a0 = none → l0 = 0 ∧ c0 = 0) (hn1 : a1 = none → l1 = 0 ∧ c1 = 0) (hn2 : a2 = none → l2 = 0 ∧ c2 = 0) (hn3 : a3 = none → l3 = 0 ∧ c3 = 0) (hn4 : a4 = none → l4 = 0 ∧ c4 = 0) (hn5 : a5 = none → l5 = 0 ∧ c5 = 0)
    (hw0 : ∀ i, f0 i < 18446744073709551616) (hw2 : ∀ i, -2147483648 ≤ f2 i ∧ f2 i < 2147483648) (hw4 : ∀ i, -2147483648 ≤ f4 i ∧ f4 i < 2147483648) (hw5 : ∀ i, f5 i < 18446744073709551616)
    (hr0 : Reads W a0 l0 (fun i => .float .f64 (f0 i))) (hr1 : Reads W a1 l1 (fun i => .int .i8 (f1 i))) (hr2 : Reads W a2 l2 (fun i => .int .i32 (f2 i))) (hr3 : Reads W a3 l3 (fun i => .int .i64 (f3 i))) (hr4 : Reads W a4 l4 (fun i => .int .i32 (f4 i))) (hr5 : Reads W a5 l5 (fun i => .float .f64 (f5 i))) :
    Calls Try.prog 4 #[.slice a0 l0 c0, .slice a1 l1 c1, .slice a2 l2 c2, .slice a3 l3 c3, .slice a4 l4 c4, .slice a5 l5 c5] W fun e w' => e = .returned (.bool true) ∧ Only [] W w' := by
  have hbt := bytes18 a0 a1 a2 a3 a4 a5 l0 c0 l1 c1 l2 c2 l3 c3 l4 c4 l5 c5 W hm0 hm1 hm2 hm3 hm4 hm5
  have R0 : Hid (Reads W a0 l0 (fun i => .float .f64 (f0 i))) := hr0
  have R1 : Hid (Reads W a1 l1 (fun i => .int .i8 (f1 i))) := hr1
  have R2 : Hid (Reads W a2 l2 (fun i => .int .i32 (f2 i))) := hr2
  have R3 : Hid (Reads W a3 l3 (fun i => .int .i64 (f3 i))) := hr3
  have R4 : Hid (Reads W a4 l4 (fun i => .int .i32 (f4 i))) := hr4
  have R5 : Hid (Reads W a5 l5 (fun i => .float .f64 (f5 i))) := hr5
  have NN : Hid ((a0 = none → l0 = 0 ∧ c0 = 0) ∧ (a1 = none → l1 = 0 ∧ c1 = 0) ∧ (a2 = none → l2 = 0 ∧ c2 = 0) ∧ (a3 = none → l3 = 0 ∧ c3 = 0) ∧ (a4 = none → l4 = 0 ∧ c4 = 0) ∧ (a5 = none → l5 = 0 ∧ c5 = 0)) := ⟨hn0, hn1, hn2, hn3, hn4, hn5⟩
  have WF : Hid ((∀ i, f0 i < 18446744073709551616) ∧ (∀ i, -2147483648 ≤ f2 i ∧ f2 i < 2147483648) ∧ (∀ i, -2147483648 ≤ f4 i ∧ f4 i < 2147483648) ∧ (∀ i, f5 i < 18446744073709551616)) := ⟨hw0, hw2, hw4, hw5⟩
  clear hr0 hr1 hr2 hr3 hr4 hr5 hn0 hn1 hn2 hn3 hn4 hn5 hw0 hw2 hw4 hw5 hm0 hm1 hm2 hm3 hm4 hm5
  go_enter Try.func4, Try.ntmps4
  go_wp2_with fail
  refine hbt.mono ?_
  rintro e w' ⟨r, rfl, rfl, hsum⟩
  clear hbt
  cases r
  · clear hsum
    go_wp2_with fail
    go_ret
    exact ⟨rfl, Only.refl _ _⟩
  · have hsum' := hsum rfl
    have b0 : l0 ≤ 1048576 := by omega
    have b1 : l1 ≤ 1048576 := by omega
    have b2 : l2 ≤ 1048576 := by omega
    have b3 : l3 ≤ 1048576 := by omega
    have b4 : l4 ≤ 1048576 := by omega
    have b5 : l5 ≤ 1048576 := by omega
    clear hsum hsum'
    have htb := tooBig_any a0 a1 a2 a3 a4 a5 l0 c0 l1 c1 l2 c2 l3 c3 l4 c4 l5 c5 w' b0 b1 b2 b3 b4 b5
    go_wp2_with fail
    refine htb.mono ?_
    rintro e w1 ⟨⟨r, rfl⟩, rfl⟩
    clear htb
    cases r
    · have hfi := fits_any a0 a1 a2 a3 a4 a5 l0 c0 l1 c1 l2 c2 l3 c3 l4 c4 l5 c5 f0 f1 f2 f3 f4 f5 w1 b0 b1 b2 b3 b4 b5 WF.out.1 WF.out.2.1 WF.out.2.2.1 WF.out.2.2.2 R0.out R1.out R2.out R3.out R4.out R5.out
      go_wp2_with fail
      refine hfi.mono ?_
      rintro e w2 ⟨hfp, ho2⟩
      clear hfi
      rcases hfp with rfl | ⟨rfl, hle, F⟩
      · go_wp2_with fail
        go_ret
        exact ⟨rfl, ho2⟩
      · obtain rfl : l1 = l0 := hle
        have HF : Hid (Cin.Fits ⟨l1, l3, l2, l4, l5, f0, f1, f2, f3, f4, f5⟩) := F
        clear F WF
        have S0 := Reads.only R0.out ho2
        have S1 := Reads.only R1.out ho2
        have S2 := Reads.only R2.out ho2
        have S3 := Reads.only R3.out ho2
        have S4 := Reads.only R4.out ho2
        have S5 := Reads.only R5.out ho2
        obtain ⟨n0, n1, n2, n3, n4, n5⟩ := NN.out
        have HO2 : Hid (Only [] w1 w2) := ho2
        clear R0 R1 R2 R3 R4 R5 NN ho2
        have RS : Hid (Reads w2 a0 l1 (fun i => .float .f64 (f0 i)) ∧ Reads w2 a1 l1 (fun i => .int .i8 (f1 i)) ∧ Reads w2 a2 l2 (fun i => .int .i32 (f2 i)) ∧ Reads w2 a3 l3 (fun i => .int .i64 (f3 i)) ∧ Reads w2 a4 l4 (fun i => .int .i32 (f4 i)) ∧ Reads w2 a5 l5 (fun i => .float .f64 (f5 i))) := ⟨S0, S1, S2, S3, S4, S5⟩
        have RN : Hid ((a0 = none → l1 = 0 ∧ c0 = 0) ∧ (a1 = none → l1 = 0 ∧ c1 = 0) ∧ (a2 = none → l2 = 0 ∧ c2 = 0) ∧ (a3 = none → l3 = 0 ∧ c3 = 0) ∧ (a4 = none → l4 = 0 ∧ c4 = 0) ∧ (a5 = none → l5 = 0 ∧ c5 = 0)) := ⟨n0, n1, n2, n3, n4, n5⟩
        clear S0 S1 S2 S3 S4 S5 n0 n1 n2 n3 n4 n5
        go_wp2_with fail
        refine (cloneF_any a0 l1 c0 f0 w2 b0 RN.out.1 RS.out.1).mono ?_
        rintro e u1 ⟨x0, rfl, k0, o1⟩
        have T0 : Hid (ReadsO [] u1 x0 l1 (fun i => .float .f64 (f0 i))) := ReadsO.ofClone k0
        have OO1 : Hid (Only [] w2 u1) := o1
        clear k0 o1
        go_wp2_with fail
        refine (cloneI8_any a1 l1 c1 f1 u1 b1 RN.out.2.1 (Reads.only RS.out.2.1 OO1.out)).mono ?_
        rintro e u2 ⟨x1, rfl, k1, o2⟩
        have T1 : Hid (ReadsO [] u2 x1 l1 (fun i => .int .i8 (f1 i))) := ReadsO.ofClone k1
        have OO2 : Hid (Only [] w2 u2) := OO1.out.trans o2
        have T0' : Hid (ReadsO [] u2 x0 l1 (fun i => .float .f64 (f0 i))) := ReadsO.only T0.out o2
        clear k1 o2 OO1 T0
        go_wp2_with fail
        refine (cloneI32_any a2 l2 c2 f2 u2 b2 RN.out.2.2.1 (Reads.only RS.out.2.2.1 OO2.out)).mono ?_
        rintro e u3 ⟨x2, rfl, k2, o3⟩
        have P3 : Hid (ReadsO [] u3 x0 l1 (fun i => .float .f64 (f0 i)) ∧ ReadsO [] u3 x1 l1 (fun i => .int .i8 (f1 i)) ∧ ReadsO [] u3 x2 l2 (fun i => .int .i32 (f2 i))) := ⟨ReadsO.only T0'.out o3, ReadsO.only T1.out o3, ReadsO.ofClone k2⟩
        have OO3 : Hid (Only [] w2 u3) := OO2.out.trans o3
        clear k2 o3 OO2 T0' T1
        go_wp2_with fail
        refine (cloneInt_any a3 l3 c3 f3 u3 b3 RN.out.2.2.2.1 (Reads.only RS.out.2.2.2.1 OO3.out)).mono ?_
        rintro e u4 ⟨x3, rfl, k3, o4⟩
        have P4 : Hid (ReadsO [] u4 x0 l1 (fun i => .float .f64 (f0 i)) ∧ ReadsO [] u4 x1 l1 (fun i => .int .i8 (f1 i)) ∧ ReadsO [] u4 x2 l2 (fun i => .int .i32 (f2 i)) ∧ ReadsO [] u4 x3 l3 (fun i => .int .i64 (f3 i))) := ⟨ReadsO.only P3.out.1 o4, ReadsO.only P3.out.2.1 o4, ReadsO.only P3.out.2.2 o4, ReadsO.ofClone k3⟩
        have OO4 : Hid (Only [] w2 u4) := OO3.out.trans o4
        clear k3 o4 OO3 P3
        go_wp2_with fail
        refine (cloneI32_any a4 l4 c4 f4 u4 b4 RN.out.2.2.2.2.1 (Reads.only RS.out.2.2.2.2.1 OO4.out)).mono ?_
        rintro e u5 ⟨x4, rfl, k4, o5⟩
        have P5 : Hid (ReadsO [] u5 x0 l1 (fun i => .float .f64 (f0 i)) ∧ ReadsO [] u5 x1 l1 (fun i => .int .i8 (f1 i)) ∧ ReadsO [] u5 x2 l2 (fun i => .int .i32 (f2 i)) ∧ ReadsO [] u5 x3 l3 (fun i => .int .i64 (f3 i)) ∧ ReadsO [] u5 x4 l4 (fun i => .int .i32 (f4 i))) := ⟨ReadsO.only P4.out.1 o5, ReadsO.only P4.out.2.1 o5, ReadsO.only P4.out.2.2.1 o5, ReadsO.only P4.out.2.2.2 o5, ReadsO.ofClone k4⟩
        have OO5 : Hid (Only [] w2 u5) := OO4.out.trans o5
        clear k4 o5 OO4 P4
        go_wp2_with fail
        refine (cloneF_any a5 l5 c5 f5 u5 b5 RN.out.2.2.2.2.2 (Reads.only RS.out.2.2.2.2.2 OO5.out)).mono ?_
        rintro e u6 ⟨x5, rfl, k5, o6⟩
        have P6 : Hid (ReadsO [] u6 x0 l1 (fun i => .float .f64 (f0 i)) ∧ ReadsO [] u6 x1 l1 (fun i => .int .i8 (f1 i)) ∧ ReadsO [] u6 x2 l2 (fun i => .int .i32 (f2 i)) ∧ ReadsO [] u6 x3 l3 (fun i => .int .i64 (f3 i)) ∧ ReadsO [] u6 x4 l4 (fun i => .int .i32 (f4 i)) ∧ ReadsO [] u6 x5 l5 (fun i => .float .f64 (f5 i))) := ⟨ReadsO.only P5.out.1 o6, ReadsO.only P5.out.2.1 o6, ReadsO.only P5.out.2.2.1 o6, ReadsO.only P5.out.2.2.2.1 o6, ReadsO.only P5.out.2.2.2.2 o6, ReadsO.ofClone k5⟩
        have OO6 : Hid (Only [] w1 u6) := (HO2.out.trans OO5.out).trans o6
        clear k5 o6 OO5 P5 RN RS HO2
        obtain ⟨I, hI⟩ : ∃ I : Cin, I = ⟨l1, l3, l2, l4, l5, f0, f1, f2, f3, f4, f5⟩ := ⟨_, rfl⟩
        rw [← hI] at HF
        obtain ⟨e1, e2, e3, e4, e5, e6, e7, e8, e9, e10, e11⟩ : l1 = I.e ∧ l3 = I.n ∧ l2 = I.ml ∧ l4 = I.wl ∧ l5 = I.vl ∧ f0 = I.wt ∧ f1 = I.fx ∧ f2 = I.mem ∧ f3 = I.en ∧ f4 = I.wh ∧ f5 = I.val := by
          rw [hI]; exact ⟨rfl, rfl, rfl, rfl, rfl, rfl, rfl, rfl, rfl, rfl, rfl⟩
        clear hI b0
        subst e1 e2 e3 e4 e5 e6 e7 e8 e9 e10 e11
        have hrun := run_any I HF.out u6 x0 x1 x2 x3 x4 x5 b1 b2 b3 b4 P6.out.1 P6.out.2.1 P6.out.2.2.1 P6.out.2.2.2.1 P6.out.2.2.2.2.1 P6.out.2.2.2.2.2
        go_wp2_with fail
        refine hrun.mono ?_
        rintro e u7 ⟨bs, bl0, rfl, hsh, o7⟩
        clear hrun
        have P7 : Hid (ReadsO [] u7 x0 I.e (fun i => .float .f64 (I.wt i)) ∧ ReadsO [] u7 x1 I.e (fun i => .int .i8 (I.fx i)) ∧ ReadsO [] u7 x2 I.ml (fun i => .int .i32 (I.mem i)) ∧ ReadsO [] u7 x3 I.n (fun i => .int .i64 (I.en i)) ∧ ReadsO [] u7 x4 I.wl (fun i => .int .i32 (I.wh i)) ∧ ReadsO [] u7 x5 I.vl (fun i => .float .f64 (I.val i))) := ⟨ReadsO.only P6.out.1 o7, ReadsO.only P6.out.2.1 o7, ReadsO.only P6.out.2.2.1 o7, ReadsO.only P6.out.2.2.2.1 o7, ReadsO.only P6.out.2.2.2.2.1 o7, ReadsO.only P6.out.2.2.2.2.2 o7⟩
        have HSH : Hid (Arr u7 bs I.n 34 (fun i => .float .f64 (I.share i))) := hsh
        have OO7 : Hid (Only [] w1 u7) := OO6.out.trans o7
        clear P6 OO6 o7 hsh
        have horg := orig_any I HF.out x4 x5 I.wl I.vl u7 b1 b3 b4 (ReadsO.reads P7.out.2.2.2.2.1) (ReadsO.reads P7.out.2.2.2.2.2)
        have hnn : ((I.n : Int) == (I.n : Int)) = true := by simp
        go_wp2_with fail
        refine horg.mono ?_
        rintro e u8 ⟨rfl, hor, o8⟩
        clear horg hnn
        have HNB : Hid (bs ≠ u7.heap.size) := by have := HSH.out.lt; show bs ≠ _; omega
        have HOR : Hid (Arr u8 u7.heap.size I.n 34 (fun i => .float .f64 (I.orig i))) := hor
        have HSH8 : Hid (Arr u8 bs I.n 34 (fun i => .float .f64 (I.share i))) := o8.arr HSH.out (by simp)
        have P8 : Hid (ReadsO [] u8 x0 I.e (fun i => .float .f64 (I.wt i)) ∧ ReadsO [] u8 x1 I.e (fun i => .int .i8 (I.fx i)) ∧ ReadsO [] u8 x2 I.ml (fun i => .int .i32 (I.mem i)) ∧ ReadsO [] u8 x3 I.n (fun i => .int .i64 (I.en i))) := ⟨ReadsO.only P7.out.1 o8, ReadsO.only P7.out.2.1 o8, ReadsO.only P7.out.2.2.1 o8, ReadsO.only P7.out.2.2.2.1 o8⟩
        have OO8 : Hid (Only [] w1 u8) := OO7.out.trans o8
        clear hor P7 OO7 o8 HSH
        generalize u7.heap.size = bo at *
        have hmk := run_makeF u8 I.e (by omega)
        have HL0 : Hid (Arr (u8.alloc (.cells (madeCells #[.float .f64 0] I.e) 34)) u8.heap.size I.e 34 (fun i => .float .f64 (I.load 0 i))) := Arr.made _ _ _ _ _ (size_madeCells _ _) (fun j hj => madeCells_at _ _ _ hj)
        go_upto_block 0 with fail
        clear hmk
        go_cut [19, 20, 21] from 87 to 117 (fun u19 u20 u21 wx => Arr wx u8.heap.size I.e 34 (fun i => .float .f64 (I.load I.n i)) ∧ Only [] u8 wx)
        case first =>
          go_wp2_with fail
          go_loopg [19, 20] I.n (fun gk tv sv wr => ∃ s : Nat, s + gk = I.n ∧ sv = .int .i64 s ∧ tv = .int .i64 (I.st s : Nat) ∧ Arr wr u8.heap.size I.e 34 (fun i => .float .f64 (I.load s i)) ∧ Only [] u8 wr)
          case atStart => exact ⟨0, by omega, rfl, rfl, HL0.out, (Only.refl _ _).alloc _⟩
          case round =>
            clear HL0
            obtain ⟨s, hs, rfl, rfl, hL, ho⟩ := hrel
            obtain ⟨g0, hg0⟩ : ∃ g0 : Nat, g0 = gk := ⟨_, rfl⟩
            subst hg0
            by_cases hlt : s < I.n
            · have hI : (s : Int) < (I.n : Int) := by omega
              have hst := HF.out.le s hlt
              have hml := HF.out.ml s hlt
              have hen := HF.out.en s hlt
              obtain ⟨y3, rfl, -⟩ := (ReadsO.only P8.out.2.2.2 ho).cell hlt
              have HLr : Hid (Arr wr u8.heap.size I.e 34 (fun i => .float .f64 (I.load s i))) := hL
              have HOr : Hid (Only [] u8 wr) := ho
              have HEN : Hid (∀ wy, Only [] u8 wy → wy.cell? ⟨y3, s, none⟩ = some (.int .i64 (I.E s : Nat))) := fun wy hy => by
                obtain ⟨y3', h3, h4⟩ := (ReadsO.only P8.out.2.2.2 hy).cell hlt
                obtain rfl : y3 = y3' := by simpa using h3
                rw [h4, hen]
              clear hL ho hen
              go_upto_block 2 with fail
              go_cut [21] from 93 to 113 (fun u21 wx => Arr wx u8.heap.size I.e 34 (fun i => .float .f64 (I.load (s + 1) i)) ∧ Only [] u8 wx)
              case first =>
                go_wp2_with fail
                go_loopg [21] (I.E s - I.st s) (fun gk iv wr => ∃ k : Nat, k + gk = I.E s - I.st s ∧ iv = .int .i64 ((I.st s + k : Nat) : Int) ∧ Arr wr u8.heap.size I.e 34 (fun i => .float .f64 (I.loadAt s k i)) ∧ Only [] u8 wr)
                case atStart => exact ⟨0, by omega, rfl, HLr.out, HOr.out⟩
                case round =>
                  clear HLr HOr
                  obtain ⟨k, hk, rfl, hL, ho⟩ := hrel
                  have c0 := HEN.out _ ho
                  by_cases hkd : I.st s + k < I.E s
                  · obtain ⟨hmm, hm⟩ := HF.out.mem s (I.st s + k) hlt hkd
                    obtain ⟨y2, rfl, c1⟩ := (ReadsO.only P8.out.2.2.1 ho).cell (i := I.st s + k) (by omega)
                    rw [hmm] at c1
                    have c2 := hL.cell hm
                    have c3 := (ho.arr HOR.out (by simp)).cell hlt
                    have c4 := hL.frozen (I.M (I.st s + k))
                    have hadd : ∀ w : World, (binOp .add 34 (.float .f64 (I.loadAt s k (I.M (I.st s + k)))) (.float .f64 (I.orig s))).run Try.prog w = .ok (.float .f64 (addw (I.loadAt s k (I.M (I.st s + k))) (I.orig s))) w :=
                      fun w => run_float_arith w .add 34 .f64 _ _ _ (addw_eq (HF.out.loadAt hlt k _) (Nat.le_of_lt (HF.out.orig hlt))).1
                    have HL' : Hid (Arr (wr.setCell ⟨u8.heap.size, I.M (I.st s + k), none⟩ (.float .f64 (addw (I.loadAt s k (I.M (I.st s + k))) (I.orig s)))) u8.heap.size I.e 34 (fun i => .float .f64 (I.loadAt s (k + 1) i))) :=
                      (hL.set (I.M (I.st s + k)) (.float .f64 _)).congr (fun i _ => by rw [floats_upd, Cin.loadAt_succ])
                    have HO' : Hid (∀ v : Value, Only [] u8 (wr.setCell ⟨u8.heap.size, I.M (I.st s + k), none⟩ v)) := fun v => ho.setCell (p := ⟨u8.heap.size, I.M (I.st s + k), none⟩) (fun h => by simp at h) v
                    clear hL ho hmm
                    have HK : Hid (k + gk = I.E s - I.st s) := hk
                    clear hk
                    have hI3 : (I.M (I.st s + k) : Int) < (I.e : Int) := by omega
                    generalize I.loadAt s k (I.M (I.st s + k)) = ld at *
                    generalize I.M (I.st s + k) = m at *
                    obtain ⟨p, hp⟩ : ∃ p, I.st s + k = p := ⟨_, rfl⟩
                    have HP : Hid (I.st s + k = p) := hp
                    rw [hp] at c1 hkd ⊢
                    clear hp
                    have hI4 : (p : Int) < (I.E s : Int) := by omega
                    have hI5 : (p : Int) < (I.ml : Int) := by omega
                    generalize I.orig s = os at *
                    go_upto_region 27 with fail
                    go_big_region
                    go_wp2_with fail
                    go_roundg (gk - 1)
                    case measure => have := HK.out; have := HP.out; omega
                    case rel => exact ⟨k + 1, by have := HK.out; have := HP.out; omega, by have := HP.out; rw [← this]; go_num, HL'.out.drew, (HO'.out _).drew⟩
                  · have hke : k = I.E s - I.st s := by omega
                    have HL' : Hid (Arr wr u8.heap.size I.e 34 (fun i => .float .f64 (I.load (s + 1) i))) := by rw [← I.loadAt_end s, ← hke]; exact hL
                    have hI4 : ¬ ((I.st s + k : Nat) : Int) < (I.E s : Int) := by omega
                    clear hL
                    generalize I.st s + k = p at *
                    go_wp2_with fail
                    go_meet
                    case rel => exact ⟨HL'.out, ho⟩
              case rest =>
                obtain ⟨hL, ho⟩ := hcut
                have c0 := HEN.out _ ho
                go_wp2_with fail
                go_roundg (g0 - 1)
                case measure => omega
                case rel => exact ⟨s + 1, by omega, by go_num, rfl, hL, ho⟩
            · obtain rfl : s = I.n := by omega
              go_wp2_with fail
              go_meet
              case rel => exact ⟨hL, ho⟩
        case rest =>
          obtain ⟨hL, ho⟩ := hcut
          obtain ⟨w10, hw10⟩ : ∃ w10 : World, w10 = wc := ⟨_, rfl⟩
          subst hw10
          have HL : Hid (Arr w10 u8.heap.size I.e 34 (fun i => .float .f64 (I.load I.n i))) := hL
          have HSH : Hid (Arr w10 bs I.n 34 (fun i => .float .f64 (I.share i))) := ho.arr HSH8.out (by simp)
          have HOG : Hid (Arr w10 bo I.n 34 (fun i => .float .f64 (I.orig i))) := ho.arr HOR.out (by simp)
          have P9 : Hid (ReadsO [] w10 x0 I.e (fun i => .float .f64 (I.wt i)) ∧ ReadsO [] w10 x1 I.e (fun i => .int .i8 (I.fx i)) ∧ ReadsO [] w10 x2 I.ml (fun i => .int .i32 (I.mem i)) ∧ ReadsO [] w10 x3 I.n (fun i => .int .i64 (I.en i))) := ⟨ReadsO.only P8.out.1 ho, ReadsO.only P8.out.2.1 ho, ReadsO.only P8.out.2.2.1 ho, ReadsO.only P8.out.2.2.2 ho⟩
          have OO : Hid (Only [] w1 w10) := OO8.out.trans ho
          clear hL ho HL0 HSH8 HOR P8 OO8 HNB
          generalize u8.heap.size = bl at *
          go_wp2_with fail
          go_loopg [22, 19] I.n (fun gk sv tv wr => ∃ s : Nat, s + gk = I.n ∧ sv = .int .i64 s ∧ tv = .int .i64 (I.st s : Nat) ∧ SameW w10 wr)
          case atStart => exact ⟨0, by omega, rfl, rfl, SameW.refl _⟩
          case round =>
            obtain ⟨s, hs, rfl, rfl, hS⟩ := hrel
            obtain ⟨g0, hg0⟩ : ∃ g0 : Nat, g0 = gk := ⟨_, rfl⟩
            subst hg0
            by_cases hlt : s < I.n
            · have hI : (s : Int) < (I.n : Int) := by omega
              have hst := HF.out.le s hlt
              have hml := HF.out.ml s hlt
              have hen := HF.out.en s hlt
              obtain ⟨y3, rfl, -⟩ := P9.out.2.2.2.cell hlt
              have HS0 : Hid (SameW w10 wr) := hS
              have HEN : Hid (∀ wy, SameW w10 wy → wy.cell? ⟨y3, s, none⟩ = some (.int .i64 (I.E s : Nat))) := fun wy hy => by
                obtain ⟨y3', h3, h4⟩ := (ReadsO.only P9.out.2.2.2 hy.2).cell hlt
                obtain rfl : y3 = y3' := by simpa using h3
                rw [h4, hen]
              clear hS hen
              go_upto_block 6 with fail
              go_cut [23, 24, 25, 26] from 124 to 168 (fun ov tl u25 u26 wx => ov = .bool (I.ovB s (I.E s - I.st s)) ∧ tl = .bool (I.tlB s (I.E s - I.st s)) ∧ SameW w10 wx)
              case first =>
                go_wp2_with fail
                go_loopg [23, 24, 25] (I.E s - I.st s) (fun gk ov tl iv wr => ∃ k : Nat, k + gk = I.E s - I.st s ∧ ov = .bool (I.ovB s k) ∧ tl = .bool (I.tlB s k) ∧ iv = .int .i64 ((I.st s + k : Nat) : Int) ∧ SameW w10 wr)
                case atStart => exact ⟨0, by omega, rfl, rfl, rfl, HS0.out⟩
                case round =>
                  clear HS0
                  obtain ⟨k, hk, rfl, rfl, rfl, hS⟩ := hrel
                  have c0 := HEN.out _ hS
                  by_cases hkd : I.st s + k < I.E s
                  · obtain ⟨hmm, hm⟩ := HF.out.mem s (I.st s + k) hlt hkd
                    obtain ⟨y2, rfl, c1⟩ := (ReadsO.only P9.out.2.2.1 hS.2).cell (i := I.st s + k) (by omega)
                    rw [hmm] at c1
                    obtain ⟨y1, rfl, c2⟩ := (ReadsO.only P9.out.2.1 hS.2).cell hm
                    obtain ⟨y0, rfl, c3⟩ := (ReadsO.only P9.out.1 hS.2).cell hm
                    have c4 := (hS.arr HL.out).cell hm
                    have hz := order_zero (HF.out.load (Nat.le_refl _) (I.M (I.st s + k)))
                    have HOV : Hid (I.ovB s (k + 1) = (I.ovB s k || I.ovAt (I.M (I.st s + k)))) := rfl
                    have HTL : Hid (I.tlB s (k + 1) = (I.tlB s k || I.tlAt (I.M (I.st s + k)))) := rfl
                    have hov : I.ovAt (I.M (I.st s + k)) = (!(I.fx (I.M (I.st s + k)) == 2) && (Ieee.double.order (I.load I.n (I.M (I.st s + k))) (if I.fx (I.M (I.st s + k)) = 1 then 0 else I.wt (I.M (I.st s + k))) == some .gt)) := rfl
                    have htl : I.tlAt (I.M (I.st s + k)) = ((I.fx (I.M (I.st s + k)) == 1) && (Ieee.double.order (I.load I.n (I.M (I.st s + k))) 0 == some .gt)) := rfl
                    have hfx : I.fx (I.M (I.st s + k)) = 0 ∨ I.fx (I.M (I.st s + k)) = 1 ∨ I.fx (I.M (I.st s + k)) = 2 := by have := HF.out.fx _ hm; omega
                    have HSr : Hid (SameW w10 wr) := hS
                    have HK : Hid (k + gk = I.E s - I.st s) := hk
                    have hI3 : (I.M (I.st s + k) : Int) < (I.e : Int) := by omega
                    clear hS hk hmm
                    generalize I.load I.n (I.M (I.st s + k)) = ld at *
                    generalize I.wt (I.M (I.st s + k)) = wt at *
                    generalize I.fx (I.M (I.st s + k)) = fx at *
                    generalize I.ovAt (I.M (I.st s + k)) = oA at *
                    generalize I.tlAt (I.M (I.st s + k)) = tA at *
                    generalize I.M (I.st s + k) = m at *
                    obtain ⟨p, hp⟩ : ∃ p, I.st s + k = p := ⟨_, rfl⟩
                    have HP : Hid (I.st s + k = p) := hp
                    rw [hp] at c1 hkd ⊢
                    clear hp
                    have hI4 : (p : Int) < (I.E s : Int) := by omega
                    have hI5 : (p : Int) < (I.ml : Int) := by omega
                    have HR : Hid (∀ (ov tl : Bool), ov = I.ovB s (k + 1) → tl = I.tlB s (k + 1) → ∀ wy, SameW wr wy → ∃ k' : Nat, k' + (gk - 1) = I.E s - I.st s ∧ Value.bool ov = .bool (I.ovB s k') ∧ Value.bool tl = .bool (I.tlB s k') ∧ Value.int .i64 ((p : Int) + 1) = .int .i64 ((I.st s + k' : Nat) : Int) ∧ SameW w10 wy) := fun ov tl h1 h2 wy hy =>
                      ⟨k + 1, by have := HK.out; have := HP.out; omega, by rw [h1], by rw [h2], by have := HP.out; rw [← this]; simp; omega, ⟨hy.1.trans HSr.out.1, HSr.out.2.trans hy.2⟩⟩
                    generalize I.ovB s k = ob at *
                    generalize I.tlB s k = tb at *
                    have H17 : Hid (∀ (q : Int) (qq : Nat), Calls Try.prog 17 #[.float .f64 wt, .int .i8 q] (wr.drewN qq) fun e w' => e = .returned (.float .f64 (if q = 1 then 0 else wt)) ∧ w' = wr.drewN qq) := fun q qq => limitOf_any wt q _
                    rcases hfx with rfl | rfl | rfl
                    · have HTA : Hid (tA = false) := htl
                      have H0 : Hid (∀ qq : Nat, Calls Try.prog 17 #[.float .f64 wt, .int .i8 0] (wr.drewN qq) fun e w' => e = .returned (.float .f64 wt) ∧ w' = wr.drewN qq) := fun qq => H17.out 0 qq
                      have hoA : oA = (FloatKind.f64.format.order ld wt == some .gt) := hov
                      clear H17 hov htl hz
                      cases hb : (FloatKind.f64.format.order ld wt == some .gt)
                      · have HOA : Hid (oA = false) := by rw [hb] at hoA; exact hoA
                        clear hoA
                        go_upto_region 39 with fail
                        go_quiet ((go_at_call 17; exact Calls.quiet_of_same (H0.out _)))
                        go_wp2_with fail
                        go_roundg (gk - 1)
                        case measure => have := HK.out; have := HP.out; omega
                        case rel => exact HR.out ob tb (by rw [HOV.out, HOA.out, Bool.or_false]) (by rw [HTL.out, HTA.out, Bool.or_false]) _ ((SameW.refl _).drewN _)
                      · have HOA : Hid (oA = true) := by rw [hb] at hoA; exact hoA
                        clear hoA
                        go_upto_region 39 with fail
                        go_quiet ((go_at_call 17; exact Calls.quiet_of_same (H0.out _)))
                        go_wp2_with fail
                        go_roundg (gk - 1)
                        case measure => have := HK.out; have := HP.out; omega
                        case rel => exact HR.out true tb (by rw [HOV.out, HOA.out, Bool.or_true]) (by rw [HTL.out, HTA.out, Bool.or_false]) _ ((SameW.refl _).drewN _)
                    · have H0 : Hid (∀ qq : Nat, Calls Try.prog 17 #[.float .f64 wt, .int .i8 1] (wr.drewN qq) fun e w' => e = .returned (.float .f64 0) ∧ w' = wr.drewN qq) := fun qq => H17.out 1 qq
                      have hoA : oA = (FloatKind.f64.format.order ld 0 == some .gt) := hov
                      have htA : tA = (FloatKind.f64.format.order ld 0 == some .gt) := htl
                      clear H17 hov htl hz
                      cases hb : (FloatKind.f64.format.order ld 0 == some .gt)
                      · have HOA : Hid (oA = false) := by rw [hb] at hoA; exact hoA
                        have HTA : Hid (tA = false) := by rw [hb] at htA; exact htA
                        clear hoA htA
                        go_upto_region 39 with fail
                        go_quiet ((go_at_call 17; exact Calls.quiet_of_same (H0.out _)))
                        go_wp2_with fail
                        go_roundg (gk - 1)
                        case measure => have := HK.out; have := HP.out; omega
                        case rel => exact HR.out ob tb (by rw [HOV.out, HOA.out, Bool.or_false]) (by rw [HTL.out, HTA.out, Bool.or_false]) _ ((SameW.refl _).drewN _)
                      · have HOA : Hid (oA = true) := by rw [hb] at hoA; exact hoA
                        have HTA : Hid (tA = true) := by rw [hb] at htA; exact htA
                        clear hoA htA
                        go_upto_region 39 with fail
                        go_quiet ((go_at_call 17; exact Calls.quiet_of_same (H0.out _)))
                        go_wp2_with fail
                        go_roundg (gk - 1)
                        case measure => have := HK.out; have := HP.out; omega
                        case rel => exact HR.out true true (by rw [HOV.out, HOA.out, Bool.or_true]) (by rw [HTL.out, HTA.out, Bool.or_true]) _ ((SameW.refl _).drewN _)
                    · have HOA : Hid (oA = false) := hov
                      have HTA : Hid (tA = false) := htl
                      clear H17 hov htl hz
                      go_upto_region 39 with fail
                      go_quiet (fail)
                      go_wp2_with fail
                      go_roundg (gk - 1)
                      case measure => have := HK.out; have := HP.out; omega
                      case rel => exact HR.out ob tb (by rw [HOV.out, HOA.out, Bool.or_false]) (by rw [HTL.out, HTA.out, Bool.or_false]) _ ((SameW.refl _).drewN _)
                  · have hke : k = I.E s - I.st s := by omega
                    have hI4 : ¬ ((I.st s + k : Nat) : Int) < (I.E s : Int) := by omega
                    have HKE : Hid (k = I.E s - I.st s) := hke
                    clear hke hk
                    generalize I.st s + k = p at *
                    go_wp2_with fail
                    go_meet
                    case rel => exact ⟨by rw [← HKE.out], by rw [← HKE.out], hS⟩
              case rest =>
                obtain ⟨rfl, rfl, hS⟩ := hcut
                have c0 := HEN.out _ hS
                have c1 := (hS.arr HSH.out).cell hlt
                have HS : Hid (SameW w10 wc) := hS
                have HST : Hid (I.st (s + 1) = I.E s) := rfl
                have hzero := fun h : I.tlB s (I.E s - I.st s) = true => HF.out.share_zero hlt (HF.out.tlB_true h)
                have hfull := fun h : I.ovB s (I.E s - I.st s) = false => HF.out.share_full hlt (Cin.ovB_false h)
                have hshn := (HF.out.share hlt).2
                have hon := HF.out.orig hlt
                cases htl : I.tlB s (I.E s - I.st s)
                · cases hov : I.ovB s (I.E s - I.st s)
                  · have hq := hfull hov
                    have c2 := (hS.arr HOG.out).cell hlt
                    rw [hq] at c1 hshn
                    have hmul : ∀ w : World, (binOp .mul 34 (.float .f64 (I.orig s)) (.float .f64 4607182418791010209)).run Try.prog w = .ok (.float .f64 (mulw (I.orig s) CC)) w := fun w => run_float_arith w .mul 34 .f64 _ _ _ (mulw_CC (Nat.le_of_lt hon)).1
                    have hb : (FloatKind.f64.format.order (mulw (I.orig s) CC) (mulw (I.orig s) CC) != some .eq) = false := by
                      have h : FloatKind.f64.format.order (mulw (I.orig s) CC) (mulw (I.orig s) CC) = some .eq := order_self hshn
                      rw [h]; rfl
                    clear hzero hfull hq hshn hon htl hov hS
                    generalize mulw (I.orig s) CC = q at *
                    generalize I.orig s = os at *
                    go_upto_region 48 with fail
                    go_quiet (fail)
                    go_wp2_with fail
                    go_roundg (g0 - 1)
                    case measure => omega
                    case rel => exact ⟨s + 1, by omega, by go_num, by rw [HST.out], SameW.drewN HS.out _⟩
                  · clear hzero hfull hshn hon htl hov hS
                    go_wp2_with fail
                    go_roundg (g0 - 1)
                    case measure => omega
                    case rel => exact ⟨s + 1, by omega, by go_num, by rw [HST.out], HS.out⟩
                · rw [hzero htl] at c1
                  have hb : (FloatKind.f64.format.order 0 0 != some .eq) = false := rfl
                  clear hzero hfull hshn hon htl hS
                  go_wp2_with fail
                  go_roundg (g0 - 1)
                  case measure => omega
                  case rel => exact ⟨s + 1, by omega, by go_num, by rw [HST.out], HS.out⟩
            · obtain rfl : s = I.n := by omega
              go_wp2_with fail
              go_ret
              exact ⟨rfl, OO.out.trans hS.2⟩
    · go_wp2_with fail
      go_ret
      exact ⟨rfl, Only.refl _ _⟩

end Go.Proofs.Qxb6601548a
