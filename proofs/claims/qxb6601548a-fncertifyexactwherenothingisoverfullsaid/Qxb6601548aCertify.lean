/- certify. -/
import Derived.Test.Qxb6601548aEnv
namespace Go.Proofs.Qxb6601548a
open Go.RowKit

theorem run_clearAll (w : World) (b n c : Nat) (f : Nat → Nat) (h : Arr w b n 34 (fun i => .float .f64 (f i))) :
    ∃ w', (∀ ty, (Builtin.clear_ #[22] ty #[.slice (some ⟨b, 0, none⟩) n c]).run Try.prog w = .ok (.tuple #[]) w') ∧ Arr w' b n 34 (fun _ => .float .f64 0) ∧ Only [b] w w' := by
  obtain ⟨w', h1, h2, h3⟩ := run_clearF w 0 b n c f h
  exact ⟨w', fun ty => h1, h2, h3⟩

theorem order_zero_fin {v : Nat} (h : Fin v) : ∃ o, Ieee.double.order 0 v = some o := by
  obtain ⟨s, m, i, hr⟩ := h
  unfold Ieee.Format.order
  rw [read_zero, hr]
  exact ⟨_, rfl⟩

/-- The shares behind the first s sets of the first pass. -/
def Cin.shA (I : Cin) (s i : Nat) : Nat := if i < s then I.orig i else 0

theorem shA_step (I : Cin) (s i : Nat) : upd (I.shA s) s (I.orig s) i = I.shA (s + 1) i := by
  unfold Cin.shA
  by_cases h : i = s
  · subst h; rw [upd_same, if_pos (by omega)]
  · rw [upd_other _ _ h]
    by_cases h2 : i < s
    · rw [if_pos h2, if_pos (by omega)]
    · rw [if_neg h2, if_neg (by omega)]

theorem shA_skip (I : Cin) (s i : Nat) (h0 : I.orig s = 0) : I.shA s i = I.shA (s + 1) i := by
  rw [← shA_step]
  by_cases h : i = s
  · subst h; rw [upd_same, h0]; unfold Cin.shA; rw [if_neg (by omega)]
  · rw [upd_other _ _ h]

theorem shA_at (I : Cin) (s : Nat) : I.shA (s + 1) s = I.orig s := if_pos (by omega)

/-- The shares behind the first s sets of the last pass. -/
def Cin.shB (I : Cin) (s i : Nat) : Nat := if i < s then I.share i else I.orig i

theorem shB_step (I : Cin) (s i : Nat) : upd (I.shB s) s (I.share s) i = I.shB (s + 1) i := by
  unfold Cin.shB
  by_cases h : i = s
  · subst h; rw [upd_same, if_pos (by omega)]
  · rw [upd_other _ _ h]
    by_cases h2 : i < s
    · rw [if_pos h2, if_pos (by omega)]
    · rw [if_neg h2, if_neg (by omega)]

theorem shB_at (I : Cin) (s : Nat) : I.shB s s = I.orig s := if_neg (by omega)
theorem shB_at' (I : Cin) (s : Nat) : I.shB (s + 1) s = I.share s := if_pos (by omega)

set_option maxRecDepth 100000 in
set_option maxHeartbeats 40000000 in
theorem certify_any (I : Cin) (F : I.Fits) (w : World) (pb bs bl bc bf : Nat) (a0 a2 a3 a4 a5 : Option Addr) (b0 : I.e ≤ 1048576) (b2 : I.ml ≤ 1048576) (b3 : I.n ≤ 1048576) (b4 : I.wl ≤ 1048576)
    (hE : Env I [bs, bl, bc] w pb bs bl bc bf a0 a2 a3 a4 a5) (hne : bs ≠ bl ∧ bs ≠ bc ∧ bl ≠ bc) (fs fl fc : Nat → Nat)
    (hS : Arr w bs I.n 34 (fun i => .float .f64 (fs i))) (hL : Arr w bl I.e 34 (fun i => .float .f64 (fl i))) (hC : Arr w bc I.e 34 (fun i => .float .f64 (fc i))) :
    Calls Try.prog 39 #[.pointer (some ⟨pb, 0, none⟩)] w fun e w' => e = .returned (.tuple #[]) ∧ Arr w' bs I.n 34 (fun i => .float .f64 (I.share i)) ∧ Only [bs, bl, bc] w w' := by
  have HF : Hid I.Fits := F
  have HE : Hid (Env I [bs, bl, bc] w pb bs bl bc bf a0 a2 a3 a4 a5) := hE
  have HNE : Hid (bs ≠ bl ∧ bs ≠ bc ∧ bl ≠ bc) := hne
  have HSL : Hid (Arr w bs I.n 34 (fun i => .float .f64 (fs i)) ∧ Arr w bl I.e 34 (fun i => .float .f64 (fl i)) ∧ Arr w bc I.e 34 (fun i => .float .f64 (fc i))) := ⟨hS, hL, hC⟩
  clear hS hL hC hne
  have d36 := hE.d36
  have d4 := hE.d4
  have hd : decide ((I.n : Int) < (I.n : Int)) = false := decide_eq_false (by omega)
  clear hE F
  go_enter Try.func39, Try.ntmps39
  go_wp2_with fail
  go_quiet (fail)
  clear d36 d4
  obtain ⟨w0, hw0⟩ : ∃ w0, w0 = w.drewN nq := ⟨_, rfl⟩
  have HW0 : Hid (SameW w w0) := by rw [hw0]; exact (SameW.refl _).drewN _
  rw [← hw0]
  clear hw0
  obtain ⟨w1, hcl1, hS1, ho1⟩ := run_clearAll w0 bs I.n I.n fs (SameW.arr HW0.out HSL.out.1)
  obtain ⟨w2, hcl2, hL2, ho2⟩ := run_clearAll w1 bl I.e I.e fl (ho1.arr (SameW.arr HW0.out HSL.out.2.1) (by simpa using HNE.out.1.symm))
  have hO0 : Only [bs, bl] w w1 := (HW0.out.2.mono (by simp)).trans (ho1.mono (by simp))
  have d36 := (Env.only HE.out (HW0.out.2.mono (by simp))).d36
  have sub2 : ∀ k, k ∈ [bs, bl] → k ∈ [bs, bl, bc] := fun k h => by
    simp at h ⊢
    rcases h with h | h <;> simp [h]
  have d31 := (Env.only HE.out (hO0.mono sub2)).d31
  have HO2 : Hid (Only [bs, bl] w w2) := hO0.trans (ho2.mono (by simp))
  have HS2 : Hid (Arr w2 bs I.n 34 (fun i => .float .f64 (I.shA 0 i))) := (ho2.arr hS1 (by simpa using HNE.out.1)).congr (fun i _ => by simp [Cin.shA])
  have HL2 : Hid (Arr w2 bl I.e 34 (fun i => .float .f64 (I.load 0 i))) := hL2
  go_upto_block 0 with fail
  clear hcl1 hcl2 d36 d31 hO0 ho1 ho2 hS1 hL2 hd HW0
  have HC : Hid (Arr w bc I.e 34 (fun i => .float .f64 (fc i))) := HSL.out.2.2
  clear HSL
  go_cut [3, 4, 6] from 48 to 100 (fun u3 u4 u6 wx => Arr wx bs I.n 34 (fun i => .float .f64 (I.shA I.n i)) ∧ Arr wx bl I.e 34 (fun i => .float .f64 (I.load I.n i)) ∧ Only [bs, bl] w wx)
  case first =>
    go_wp2_with fail
    go_loopg [48] I.n (fun gk iv wr => ∃ s : Nat, s + gk = I.n ∧ iv = .int .i64 s ∧ Arr wr bs I.n 34 (fun i => .float .f64 (I.shA s i)) ∧ Arr wr bl I.e 34 (fun i => .float .f64 (I.load s i)) ∧ Only [bs, bl] w wr)
    case atStart => exact ⟨0, by omega, rfl, HS2.out, HL2.out, HO2.out⟩
    case round =>
      clear HS2 HL2 HO2
      obtain ⟨s, hs, rfl, hS, hL, ho⟩ := hrel
      obtain ⟨g0, hg0⟩ : ∃ g0 : Nat, g0 = gk := ⟨_, rfl⟩
      subst hg0
      by_cases hlt : s < I.n
      · have hEr := Env.only HE.out (ho.mono sub2)
        have HSr : Hid _ := hS
        have HLr : Hid _ := hL
        have HOr : Hid _ := ho
        clear hS hL ho
        have hI : (s : Int) < (I.n : Int) := by omega
        have hI2 : (I.e : Int) + (s : Int) < (I.wl : Int) := by have := HF.out.wl; omega
        have d12 := hEr.d12
        have d0 := hEr.d0
        obtain ⟨x4, rfl, d4⟩ := hEr.r4.cell (i := I.e + s) (by omega)
        have HEr : Hid _ := hEr
        clear hEr
        go_upto_region 8 with fail
        go_quiet (fail)
        obtain ⟨wd, hwd⟩ : ∃ wd, wd = wr.drewN nq := ⟨_, rfl⟩
        have HWD : Hid (SameW wr wd) := by rw [hwd]; exact (SameW.refl _).drewN _
        rw [← hwd]
        clear hwd d12 d0 d4
        have HWH := HF.out.wh s hlt
        have HWV := HF.out.val s hlt
        have hor : I.orig s = if 0 ≤ I.wh (I.e + s) then (if Ieee.double.order (I.val (I.wh (I.e + s)).toNat) 0 = some .gt then I.val (I.wh (I.e + s)).toNat else 0) else 0 := rfl
        have HSd : Hid (Arr wd bs I.n 34 (fun i => .float .f64 (I.shA s i))) := SameW.arr HWD.out HSr.out
        have HLd : Hid (Arr wd bl I.e 34 (fun i => .float .f64 (I.load s i))) := SameW.arr HWD.out HLr.out
        have HOd : Hid (Only [bs, bl] w wd) := HOr.out.trans (HWD.out.2.mono (by simp))
        have HEd : Hid (Env I [bs, bl, bc] wd pb bs bl bc bf a0 a2 a3 (some ⟨x4, 0, none⟩) a5) := Env.only HEr.out (HWD.out.2.mono (by simp))
        clear HSr HLr HOr HEr HWD
        go_upto_if 66 with fail
        go_cut [4] from 67 to 77 (fun u4 wx => Arr wx bs I.n 34 (fun i => .float .f64 (I.shA (s + 1) i)) ∧ Arr wx bl I.e 34 (fun i => .float .f64 (I.load s i)) ∧ Only [bs, bl] w wx)
        case first =>
          generalize I.wh (I.e + s) = at' at *
          by_cases ha : 0 ≤ at'
          · obtain ⟨u, rfl⟩ : ∃ u : Nat, at' = (u : Int) := ⟨at'.toNat, by omega⟩
            have hu : u < I.vl := by have := HWH ha; omega
            have hfin := (HWV ha).1
            rw [if_pos ha] at hor
            rw [show ((u : Int)).toNat = u by omega] at hor hfin
            obtain ⟨x5, rfl, d5⟩ := HEd.out.r5.cell hu
            have hI3 : (u : Int) < (I.vl : Int) := by omega
            have d8 := HEd.out.d8
            have hmx : ∀ (ats : Array TypeId) (ty : TypeId) (w : World), (Builtin.max_ ats ty #[.float .f64 0, .float .f64 (I.val u)]).run Try.prog w = .ok (.float .f64 (I.orig s)) w := fun ats ty w => by
              rw [hor, ← fmax_zero hfin]
              exact run_fmax w ats ty 0 (I.val u) (order_zero_fin hfin)
            have dS := HSd.out.cell hlt
            have dF := HSd.out.frozen s
            have HS' : Hid (Arr (wd.setCell ⟨bs, s, none⟩ (.float .f64 (I.orig s))) bs I.n 34 (fun i => .float .f64 (I.shA (s + 1) i))) := (HSd.out.set s (.float .f64 (I.orig s))).congr (fun i _ => by rw [floats_upd, shA_step])
            have HL' : Hid (Arr (wd.setCell ⟨bs, s, none⟩ (.float .f64 (I.orig s))) bl I.e 34 (fun i => .float .f64 (I.load s i))) := HLd.out.setOther HNE.out.1.symm s _
            have HO' : Hid (Only [bs, bl] w (wd.setCell ⟨bs, s, none⟩ (.float .f64 (I.orig s)))) := HOd.out.setCell (p := ⟨bs, s, none⟩) (fun _ => by simp) _
            clear hor hfin HWH HWV
            generalize I.orig s = os at *
            go_wp2_with fail
            go_meet
            case rel => exact ⟨HS'.out, HL'.out, HO'.out⟩
          · rw [if_neg ha] at hor
            have HS' : Hid (Arr wd bs I.n 34 (fun i => .float .f64 (I.shA (s + 1) i))) := HSd.out.congr (fun i _ => by rw [shA_skip I s i hor])
            clear hor HWH HWV
            go_wp2_with fail
            go_meet
            case rel => exact ⟨HS'.out, HLd.out, HOd.out⟩
        case rest =>
          obtain ⟨hS, hL, ho⟩ := hcut
          clear HSd HLd HOd HEd hor HWH HWV
          have hset := set_any I HF.out [bs, bl, bc] wc pb bs bl bc bf a0 a2 a3 (some ⟨x4, 0, none⟩) a5 b2 b3 (Env.only HE.out (ho.mono sub2)) s hlt
          have HSr : Hid _ := hS
          have HLr : Hid _ := hL
          have HOr : Hid _ := ho
          clear hS hL ho hI2
          go_wp2_with fail
          refine hset.mono ?_
          rintro _ wn ⟨⟨an, cn, rfl, han⟩, hSW⟩
          clear hset
          have HSn : Hid (Arr wn bs I.n 34 (fun i => .float .f64 (I.shA (s + 1) i))) := hSW.arr HSr.out
          have HLn : Hid (Arr wn bl I.e 34 (fun i => .float .f64 (I.load s i))) := hSW.arr HLr.out
          have HOn : Hid (Only [bs, bl] w wn) := HOr.out.trans (hSW.2.mono (by simp))
          have HAN : Hid (I.st s < I.E s → ∃ b, a2 = some ⟨b, 0, none⟩ ∧ an = some ⟨b, I.st s, none⟩) := han
          clear HSr HLr HOr hSW han
          have hdE : I.E s ≤ I.ml := HF.out.ml s hlt
          obtain ⟨d, hd⟩ : ∃ d, d = I.E s - I.st s := ⟨_, rfl⟩
          rw [← hd]
          have HD : Hid (d = I.E s - I.st s) := hd
          have hd1 : d ≤ I.ml := by omega
          clear hd hdE
          go_wp2_with fail
          go_loopg [82] d (fun gk iv wr => ∃ k : Nat, k + gk = d ∧ iv = .int .i64 k ∧ Arr wr bs I.n 34 (fun i => .float .f64 (I.shA (s + 1) i)) ∧ Arr wr bl I.e 34 (fun i => .float .f64 (I.loadAt s k i)) ∧ Only [bs, bl] w wr)
          case atStart => exact ⟨0, by omega, rfl, HSn.out, HLn.out, HOn.out⟩
          case round =>
            clear HSn HLn HOn
            obtain ⟨k, hk, rfl, hS, hL, ho⟩ := hrel
            by_cases hkd : k < d
            · have hEr := Env.only HE.out (ho.mono sub2)
              have hkE : I.st s + k < I.E s := by have := HD.out; omega
              obtain ⟨x2, rfl, han⟩ := HAN.out (by omega)
              subst han
              have hmm := HF.out.mem s (I.st s + k) hlt hkE
              have hml := HF.out.ml s hlt
              obtain ⟨x2', hx2, c1⟩ := hEr.r2.cell (i := I.st s + k) (by omega)
              obtain rfl : x2 = x2' := by simpa using hx2
              rw [hmm.1] at c1
              have hm := hmm.2
              have hI3 : (I.M (I.st s + k) : Int) < (I.e : Int) := by omega
              have hI4 : (k : Int) < (d : Int) := by omega
              have d31 := hEr.d31
              have c2 := hL.cell hm
              have c3 := hS.cell hlt
              rw [shA_at] at c3
              have c4 := hL.frozen (I.M (I.st s + k))
              have hadd : ∀ w : World, (binOp .add 34 (.float .f64 (I.loadAt s k (I.M (I.st s + k)))) (.float .f64 (I.orig s))).run Try.prog w = .ok (.float .f64 (addw (I.loadAt s k (I.M (I.st s + k))) (I.orig s))) w :=
                fun w => run_float_arith w .add 34 .f64 _ _ _ (addw_eq (HF.out.loadAt hlt k _) (Nat.le_of_lt (HF.out.orig hlt))).1
              have HL' : Hid (Arr (wr.setCell ⟨bl, I.M (I.st s + k), none⟩ (.float .f64 (addw (I.loadAt s k (I.M (I.st s + k))) (I.orig s)))) bl I.e 34 (fun i => .float .f64 (I.loadAt s (k + 1) i))) :=
                (hL.set (I.M (I.st s + k)) (.float .f64 _)).congr (fun i _ => by rw [floats_upd, Cin.loadAt_succ])
              have HS' : Hid (∀ v : Value, Arr (wr.setCell ⟨bl, I.M (I.st s + k), none⟩ v) bs I.n 34 (fun i => .float .f64 (I.shA (s + 1) i))) := fun v => hS.setOther HNE.out.1 _ _
              have HO' : Hid (∀ v : Value, Only [bs, bl] w (wr.setCell ⟨bl, I.M (I.st s + k), none⟩ v)) := fun v => ho.setCell (p := ⟨bl, I.M (I.st s + k), none⟩) (fun _ => by simp) v
              clear hS hL ho hEr hmm hml hx2 hkE
              generalize I.loadAt s k (I.M (I.st s + k)) = ld at *
              generalize I.M (I.st s + k) = m at *
              generalize I.orig s = os at *
              go_upto_region 14 with fail
              go_big_region
              go_wp2_with fail
              go_roundg (gk - 1)
              case measure => omega
              case rel => exact ⟨k + 1, by omega, by go_num, (HS'.out _).drew, HL'.out.drew, (HO'.out _).drew⟩
            · obtain rfl : k = d := by omega
              have HL' : Hid (Arr wr bl I.e 34 (fun i => .float .f64 (I.load (s + 1) i))) := by rw [← I.loadAt_end s, ← HD.out]; exact hL
              clear hL
              go_wp2_with fail
              go_roundg (g0 - 1)
              case measure => omega
              case rel => exact ⟨s + 1, by omega, by go_num, hS, HL'.out, ho⟩
      · obtain rfl : s = I.n := by omega
        go_wp2_with fail
        go_meet
        case rel => exact ⟨hS, hL, ho⟩
  case rest =>
    obtain ⟨hS, hL, ho⟩ := hcut
    clear HS2 HL2 HO2
    have HCr : Hid (Arr wc bc I.e 34 (fun i => .float .f64 (fc i))) := ho.arr HC.out (by simp; exact ⟨HNE.out.2.1.symm, HNE.out.2.2.symm⟩)
    have HSr : Hid (Arr wc bs I.n 34 (fun i => .float .f64 (I.shA I.n i))) := hS
    have HLr : Hid (Arr wc bl I.e 34 (fun i => .float .f64 (I.load I.n i))) := hL
    have HOr : Hid (Only [bs, bl, bc] w wc) := ho.mono sub2
    clear hS hL ho HC sub2
    have d37 := (Env.only HE.out HOr.out).d37
    have d31 := (Env.only HE.out HOr.out).d31
    go_upto_block 4 with fail
    clear d37 d31
    go_cut [8, 9, 10] from 110 to 152 (fun u8 u9 u10 wx => Arr wx bs I.n 34 (fun i => .float .f64 (I.shA I.n i)) ∧ Arr wx bl I.e 34 (fun i => .float .f64 (I.load I.n i)) ∧ Arr wx bc I.e 34 (fun i => .float .f64 (I.cut i)) ∧ Only [bs, bl, bc] w wx)
    case first =>
      go_wp2_with fail
      go_loopg [110] I.e (fun gk iv wr => ∃ (m : Nat) (g : Nat → Nat), m + gk = I.e ∧ iv = .int .i64 m ∧ Arr wr bs I.n 34 (fun i => .float .f64 (I.shA I.n i)) ∧ Arr wr bl I.e 34 (fun i => .float .f64 (I.load I.n i)) ∧ Arr wr bc I.e 34 (fun i => .float .f64 (g i)) ∧ Only [bs, bl, bc] w wr ∧ Aside (∀ i, i < m → g i = I.cut i))
      case atStart => exact ⟨0, fc, by omega, rfl, HSr.out, HLr.out, HCr.out, HOr.out, fun i hi => by omega⟩
      case round =>
        clear HSr HLr HOr HCr
        obtain ⟨m, g, hm, rfl, hS, hL, hC, ho, hg⟩ := hrel
        by_cases hlt : m < I.e
        · have hI : (m : Int) < (I.e : Int) := by omega
          have c1 := hL.cell hlt
          have c2 := hC.cell hlt
          have c3 := hC.frozen m
          have HS1 : Hid (Arr (wr.setCell ⟨bc, m, none⟩ (.float .f64 4607182418800017408)) bs I.n 34 (fun i => .float .f64 (I.shA I.n i))) := hS.setOther HNE.out.2.1 _ _
          have HL1 : Hid (Arr (wr.setCell ⟨bc, m, none⟩ (.float .f64 4607182418800017408)) bl I.e 34 (fun i => .float .f64 (I.load I.n i))) := hL.setOther HNE.out.2.2 _ _
          have HC1 : Hid (Arr (wr.setCell ⟨bc, m, none⟩ (.float .f64 4607182418800017408)) bc I.e 34 (fun i => .float .f64 (upd g m ONE i))) := (hC.set m (.float .f64 ONE)).congr (fun i _ => floats_upd g m ONE i)
          have HO1 : Hid (Only [bs, bl, bc] w (wr.setCell ⟨bc, m, none⟩ (.float .f64 4607182418800017408))) := ho.setCell (p := ⟨bc, m, none⟩) (fun _ => by simp) _
          clear hS hL hC ho
          go_upto_region 22 with fail
          clear c1 c2 c3
          obtain ⟨w1, hw1⟩ : ∃ w1, w1 = wr.setCell ⟨bc, m, none⟩ (.float .f64 4607182418800017408) := ⟨_, rfl⟩
          rw [← hw1] at HS1 HL1 HC1 HO1 ⊢
          clear hw1
          have hEr := Env.only HE.out HO1.out
          have d1 := hEr.d1
          have d0 := hEr.d0
          have f1 := hEr.r1 m hlt
          obtain ⟨x0, rfl, e0⟩ := hEr.r0.cell hlt
          clear hEr
          have HG1 : Hid (I.cut m = ONE → ∀ i, i < m + 1 → upd g m ONE i = I.cut i) := fun h i hi => by
            by_cases h2 : i = m
            · subst h2; rw [upd_same, h]
            · rw [upd_other _ _ h2]; exact hg.out i (by omega)
          have HG2 : Hid (∀ i, i < m + 1 → upd (upd g m ONE) m (I.cut m) i = I.cut i) := fun i hi => by
            by_cases h2 : i = m
            · subst h2; rw [upd_same]
            · rw [upd_other _ _ h2, upd_other _ _ h2]; exact hg.out i (by omega)
          clear hg
          have hz := order_zero (HF.out.load (Nat.le_refl _) m)
          have hcut0 : I.fx m = 2 ∨ I.load I.n m = 0 → I.cut m = ONE := fun h => if_pos h
          have hcut1 : ¬ (I.fx m = 2 ∨ I.load I.n m = 0) → I.cut m = fmin ONE (divw (I.limit m) (I.load I.n m)) := fun h => if_neg h
          have hfx : I.fx m = 0 ∨ I.fx m = 1 ∨ I.fx m = 2 := by have := HF.out.fx m hlt; omega
          rcases Nat.eq_zero_or_pos (I.load I.n m) with hl0 | hl0
          · have HG : Hid (∀ i, i < m + 1 → upd g m ONE i = I.cut i) := HG1.out (hcut0 (.inr hl0))
            rw [hl0]
            have hb : (FloatKind.f64.format.order 0 0 == some .gt) = false := rfl
            clear hcut0 hcut1 HG1 HG2 hz hl0
            rcases hfx with hx | hx | hx <;> rw [hx] at f1 <;> clear hx
            all_goals
              go_wp2_with fail
              go_roundg (gk - 1)
              case measure => omega
              case rel => exact ⟨m + 1, upd g m ONE, by omega, by go_num, HS1.out, HL1.out, HC1.out, HO1.out, HG.out⟩
          · have hb : (FloatKind.f64.format.order (I.load I.n m) 0 == some .gt) = true := by
              have h : FloatKind.f64.format.order (I.load I.n m) 0 = some .gt := by
                show Ieee.double.order _ _ = _
                rw [hz, if_neg (by omega)]
              rw [h]; rfl
            have hln := HF.out.load (Nat.le_refl _) m
            have g1 := HC1.out.cell hlt
            have g2 := HC1.out.frozen m
            have HS2 : Hid (Arr (w1.setCell ⟨bc, m, none⟩ (.float .f64 (I.cut m))) bs I.n 34 (fun i => .float .f64 (I.shA I.n i))) := HS1.out.setOther HNE.out.2.1 _ _
            have HL2 : Hid (Arr (w1.setCell ⟨bc, m, none⟩ (.float .f64 (I.cut m))) bl I.e 34 (fun i => .float .f64 (I.load I.n i))) := HL1.out.setOther HNE.out.2.2 _ _
            have HC2 : Hid (Arr (w1.setCell ⟨bc, m, none⟩ (.float .f64 (I.cut m))) bc I.e 34 (fun i => .float .f64 (upd (upd g m ONE) m (I.cut m) i))) := (HC1.out.set m (.float .f64 (I.cut m))).congr (fun i _ => floats_upd _ m _ i)
            have HO2 : Hid (Only [bs, bl, bc] w (w1.setCell ⟨bc, m, none⟩ (.float .f64 (I.cut m)))) := HO1.out.setCell (p := ⟨bc, m, none⟩) (fun _ => by simp) _
            have hdv : ∀ w : World, (binOp .quo 34 (.float .f64 (I.limit m)) (.float .f64 (I.load I.n m))).run Try.prog w = .ok (.float .f64 (divw (I.limit m) (I.load I.n m))) w :=
              fun w => run_float_arith w .quo 34 .f64 _ _ _ (divw_nn (HF.out.limit hlt) hln (by omega)).1
            have hmn : ∀ (ats : Array TypeId) (ty : TypeId) (w : World), (Builtin.min_ ats ty #[.float .f64 4607182418800017408, .float .f64 (divw (I.limit m) (I.load I.n m))]).run Try.prog w = .ok (.float .f64 (fmin ONE (divw (I.limit m) (I.load I.n m)))) w := fun ats ty w =>
              run_fmin w ats ty ONE _ (order_some (by decide) (divw_nn (HF.out.limit hlt) hln (by omega)).2.1)
            have hlim : I.limit m = if I.fx m = 1 then 0 else I.wt m := rfl
            clear hz hln
            rcases hfx with hx | hx | hx <;> rw [hx] at f1
            · rw [← hcut1 (by omega)] at hmn
              rw [hx, if_neg (by decide)] at hlim
              rw [hlim] at hdv hmn
              clear hcut0 hcut1 HG1 hl0 hx hlim
              generalize divw (I.wt m) (I.load I.n m) = q at *
              generalize I.load I.n m = ld at *
              generalize I.wt m = wt at *
              generalize I.cut m = ct at *
              generalize upd g m ONE m = oc at *
              go_wp2_with fail
              go_roundg (gk - 1)
              case measure => omega
              case rel => exact ⟨m + 1, _, by omega, by go_num, HS2.out, HL2.out, HC2.out, HO2.out, HG2.out⟩
            · rw [← hcut1 (by omega)] at hmn
              rw [hx, if_pos rfl] at hlim
              rw [hlim] at hdv hmn
              clear hcut0 hcut1 HG1 hl0 hx hlim
              generalize divw 0 (I.load I.n m) = q at *
              generalize I.load I.n m = ld at *
              generalize I.wt m = wt at *
              generalize I.cut m = ct at *
              generalize upd g m ONE m = oc at *
              go_wp2_with fail
              go_roundg (gk - 1)
              case measure => omega
              case rel => exact ⟨m + 1, _, by omega, by go_num, HS2.out, HL2.out, HC2.out, HO2.out, HG2.out⟩
            · have HG : Hid (∀ i, i < m + 1 → upd g m ONE i = I.cut i) := HG1.out (hcut0 (.inl hx))
              clear hcut0 hcut1 HG1 HG2 hl0 hx hlim hdv hmn HS2 HL2 HC2 HO2 g1 g2
              go_wp2_with fail
              go_roundg (gk - 1)
              case measure => omega
              case rel => exact ⟨m + 1, upd g m ONE, by omega, by go_num, HS1.out, HL1.out, HC1.out, HO1.out, HG.out⟩
        · obtain rfl : m = I.e := by omega
          go_wp2_with fail
          go_meet
          case rel => exact ⟨hS, hL, hC.congr (fun i hi => by rw [hg.out i hi]), ho⟩
    case rest =>
      obtain ⟨hS, hL, hC, ho⟩ := hcut
      clear HSr HLr HOr HCr
      obtain ⟨w3, hcl, hL3, ho3⟩ := run_clearAll wc bl I.e I.e _ hL
      have d31 := (Env.only HE.out ho).d31
      have HS3 : Hid (Arr w3 bs I.n 34 (fun i => .float .f64 (I.shB 0 i))) := (ho3.arr hS (by simpa using HNE.out.1)).congr (fun i hi => by unfold Cin.shB Cin.shA; rw [if_pos hi, if_neg (by omega)])
      have HC3 : Hid (Arr w3 bc I.e 34 (fun i => .float .f64 (I.cut i))) := ho3.arr hC (by simpa using HNE.out.2.2.symm)
      have HL3 : Hid (Arr w3 bl I.e 34 (fun i => .float .f64 ((fun _ => 0) i))) := hL3
      have HO3 : Hid (Only [bs, bl, bc] w w3) := ho.trans (ho3.mono (by simp))
      clear hS hL hC ho hL3 ho3
      go_upto_block 6 with fail
      clear hcl d31
      go_wp2_with fail
      go_loopg [159] I.n (fun gk iv wr => ∃ (s : Nat) (gl : Nat → Nat), s + gk = I.n ∧ iv = .int .i64 s ∧ Arr wr bs I.n 34 (fun i => .float .f64 (I.shB s i)) ∧ Arr wr bl I.e 34 (fun i => .float .f64 (gl i)) ∧ Arr wr bc I.e 34 (fun i => .float .f64 (I.cut i)) ∧ Only [bs, bl, bc] w wr ∧ Aside (∀ i, gl i ≤ INF))
      case atStart => exact ⟨0, fun _ => 0, by omega, rfl, HS3.out, HL3.out, HC3.out, HO3.out, fun i => Nat.zero_le _⟩
      case round =>
        clear HS3 HL3 HC3 HO3
        obtain ⟨s, gl, hs, rfl, hS, hL, hC, ho, hgl⟩ := hrel
        obtain ⟨g0, hg0⟩ : ∃ g0 : Nat, g0 = gk := ⟨_, rfl⟩
        subst hg0
        by_cases hlt : s < I.n
        · have hset := set_any I HF.out [bs, bl, bc] wr pb bs bl bc bf a0 a2 a3 a4 a5 b2 b3 (Env.only HE.out ho) s hlt
          have hI : (s : Int) < (I.n : Int) := by omega
          go_wp2_with fail
          refine hset.mono ?_
          rintro _ wn ⟨⟨an, cn, rfl, han⟩, hSW⟩
          clear hset
          have HSn : Hid (Arr wn bs I.n 34 (fun i => .float .f64 (I.shB s i))) := hSW.arr hS
          have HLn : Hid (Arr wn bl I.e 34 (fun i => .float .f64 (gl i))) := hSW.arr hL
          have HCn : Hid (Arr wn bc I.e 34 (fun i => .float .f64 (I.cut i))) := hSW.arr hC
          have HOn : Hid (Only [bs, bl, bc] w wn) := ho.trans (hSW.2.mono (by simp))
          have HGL : Hid (∀ i, gl i ≤ INF) := hgl.out
          have HAN : Hid (I.st s < I.E s → ∃ b, a2 = some ⟨b, 0, none⟩ ∧ an = some ⟨b, I.st s, none⟩) := han
          clear hS hL hC ho hSW han hgl
          have hdE : I.E s ≤ I.ml := HF.out.ml s hlt
          obtain ⟨d, hd⟩ : ∃ d, d = I.E s - I.st s := ⟨_, rfl⟩
          rw [← hd]
          have HD : Hid (d = I.E s - I.st s) := hd
          have hd1 : d ≤ I.ml := by omega
          clear hd hdE
          go_upto_block 8 with fail
          go_cut [12, 14] from 166 to 177 (fun cv u14 wx => cv = .float .f64 (I.cRun s d) ∧ wx = wn)
          case first =>
            go_wp2_with fail
            go_loopg [166, 12] d (fun gk iv cv wr => ∃ k : Nat, k + gk = d ∧ iv = .int .i64 k ∧ cv = .float .f64 (I.cRun s k) ∧ wr = wn)
            case atStart => exact ⟨0, by omega, rfl, rfl, rfl⟩
            case round =>
              obtain ⟨k, hk, rfl, rfl, hw⟩ := hrel
              replace hw := hw.symm
              subst hw
              by_cases hkd : k < d
              · have hEr := Env.only HE.out HOn.out
                have hkE : I.st s + k < I.E s := by have := HD.out; omega
                obtain ⟨x2, rfl, han⟩ := HAN.out (by omega)
                subst han
                have hmm := HF.out.mem s (I.st s + k) hlt hkE
                have hml := HF.out.ml s hlt
                obtain ⟨x2', hx2, c1⟩ := hEr.r2.cell (i := I.st s + k) (by omega)
                obtain rfl : x2 = x2' := by simpa using hx2
                rw [hmm.1] at c1
                have hm := hmm.2
                have hI3 : (I.M (I.st s + k) : Int) < (I.e : Int) := by omega
                have hI4 : (k : Int) < (d : Int) := by omega
                have c2 := HCn.out.cell hm
                have hcn := HF.out.cut hm
                have hml2 : ∀ w : World, (binOp .mul 34 (.float .f64 (I.cut (I.M (I.st s + k)))) (.float .f64 4607182418791010209)).run Try.prog w = .ok (.float .f64 (mulw (I.cut (I.M (I.st s + k))) CC)) w :=
                  fun w => run_float_arith w .mul 34 .f64 _ _ _ (mulw_CC hcn).1
                have hmn : ∀ (ats : Array TypeId) (ty : TypeId) (w : World), (Builtin.min_ ats ty #[.float .f64 (I.cRun s k), .float .f64 (mulw (I.cut (I.M (I.st s + k))) CC)]).run Try.prog w = .ok (.float .f64 (I.cRun s (k + 1))) w := fun ats ty w =>
                  run_fmin w ats ty _ _ (order_some (Nat.le_of_lt (HF.out.cRun hlt (by have := HD.out; omega))) (mulw_CC hcn).2)
                clear hEr hmm hml hx2 hkE hcn
                obtain ⟨c', hc'⟩ : ∃ c', I.cRun s (k + 1) = c' := ⟨_, rfl⟩
                have HCC : Hid (I.cRun s (k + 1) = c') := hc'
                rw [hc'] at hmn
                clear hc'
                generalize I.cRun s k = c0 at *
                generalize mulw (I.cut (I.M (I.st s + k))) CC = q at *
                generalize I.cut (I.M (I.st s + k)) = ct at *
                generalize I.M (I.st s + k) = m at *
                go_wp2_with fail
                go_roundg (gk - 1)
                case measure => omega
                case rel => exact ⟨k + 1, by omega, by go_num, by rw [HCC.out], rfl⟩
              · obtain rfl : k = d := by omega
                go_wp2_with fail
                go_meet
                case rel => exact ⟨rfl, rfl⟩
          case rest =>
            obtain ⟨rfl, hw⟩ := hcut
            replace hw := hw.symm
            subst hw
            have hsh := HF.out.share hlt
            rw [← HD.out] at hsh
            have hmul : ∀ w : World, (binOp .mul 34 (.float .f64 (I.orig s)) (.float .f64 (I.cRun s d))).run Try.prog w = .ok (.float .f64 (I.share s)) w := fun w => run_float_arith w .mul 34 .f64 _ _ _ hsh.1
            have HSH : Hid (I.share s ≤ INF) := hsh.2
            have c1 := HSn.out.cell hlt
            rw [shB_at] at c1
            have c2 := HSn.out.frozen s
            have HS4 : Hid (Arr (wn.setCell ⟨bs, s, none⟩ (.float .f64 (I.share s))) bs I.n 34 (fun i => .float .f64 (I.shB (s + 1) i))) := (HSn.out.set s (.float .f64 (I.share s))).congr (fun i _ => by rw [floats_upd, shB_step])
            have HL4 : Hid (Arr (wn.setCell ⟨bs, s, none⟩ (.float .f64 (I.share s))) bl I.e 34 (fun i => .float .f64 (gl i))) := HLn.out.setOther HNE.out.1.symm _ _
            have HC4 : Hid (Arr (wn.setCell ⟨bs, s, none⟩ (.float .f64 (I.share s))) bc I.e 34 (fun i => .float .f64 (I.cut i))) := HCn.out.setOther HNE.out.2.1.symm _ _
            have HO4 : Hid (Only [bs, bl, bc] w (wn.setCell ⟨bs, s, none⟩ (.float .f64 (I.share s)))) := HOn.out.setCell (p := ⟨bs, s, none⟩) (fun _ => by simp) _
            clear hsh HSn HLn HCn HOn HAN
            generalize I.cRun s d = cr at *
            generalize I.orig s = os at *
            go_upto_region 39 with fail
            clear c1 c2 hmul
            obtain ⟨w4, hw4⟩ : ∃ w4, w4 = wn.setCell ⟨bs, s, none⟩ (.float .f64 (I.share s)) := ⟨_, rfl⟩
            rw [← hw4] at HS4 HL4 HC4 HO4 ⊢
            clear hw4
            have hset := set_any I HF.out [bs, bl, bc] w4 pb bs bl bc bf a0 a2 a3 a4 a5 b2 b3 (Env.only HE.out HO4.out) s hlt
            go_wp2_with fail
            refine hset.mono ?_
            rintro _ w5 ⟨⟨an, cn, rfl, han⟩, hSW⟩
            clear hset
            rw [← HD.out]
            have HSn : Hid (Arr w5 bs I.n 34 (fun i => .float .f64 (I.shB (s + 1) i))) := hSW.arr HS4.out
            have HLn : Hid (Arr w5 bl I.e 34 (fun i => .float .f64 (gl i))) := hSW.arr HL4.out
            have HCn : Hid (Arr w5 bc I.e 34 (fun i => .float .f64 (I.cut i))) := hSW.arr HC4.out
            have HOn : Hid (Only [bs, bl, bc] w w5) := HO4.out.trans (hSW.2.mono (by simp))
            have HAN : Hid (I.st s < I.E s → ∃ b, a2 = some ⟨b, 0, none⟩ ∧ an = some ⟨b, I.st s, none⟩) := han
            clear HS4 HL4 HC4 HO4 hSW han
            go_wp2_with fail
            go_loopg [189] d (fun gk iv wr => ∃ (k : Nat) (gl : Nat → Nat), k + gk = d ∧ iv = .int .i64 k ∧ Arr wr bs I.n 34 (fun i => .float .f64 (I.shB (s + 1) i)) ∧ Arr wr bl I.e 34 (fun i => .float .f64 (gl i)) ∧ Arr wr bc I.e 34 (fun i => .float .f64 (I.cut i)) ∧ Only [bs, bl, bc] w wr ∧ Aside (∀ i, gl i ≤ INF))
            case atStart => exact ⟨0, gl, by omega, rfl, HSn.out, HLn.out, HCn.out, HOn.out, HGL.out⟩
            case round =>
              clear HSn HLn HOn HCn HGL
              obtain ⟨k, gl, hk, rfl, hS, hL, hC, ho, hgl⟩ := hrel
              by_cases hkd : k < d
              · have hEr := Env.only HE.out ho
                have hkE : I.st s + k < I.E s := by have := HD.out; omega
                obtain ⟨x2, rfl, han⟩ := HAN.out (by omega)
                subst han
                have hmm := HF.out.mem s (I.st s + k) hlt hkE
                have hml := HF.out.ml s hlt
                obtain ⟨x2', hx2, c1⟩ := hEr.r2.cell (i := I.st s + k) (by omega)
                obtain rfl : x2 = x2' := by simpa using hx2
                rw [hmm.1] at c1
                have hm := hmm.2
                have hI3 : (I.M (I.st s + k) : Int) < (I.e : Int) := by omega
                have hI4 : (k : Int) < (d : Int) := by omega
                have d31 := hEr.d31
                have c2 := hL.cell hm
                have c3 := hS.cell hlt
                rw [shB_at'] at c3
                have c4 := hL.frozen (I.M (I.st s + k))
                have hq := addw_eq (hgl.out (I.M (I.st s + k))) HSH.out
                have hadd : ∀ w : World, (binOp .add 34 (.float .f64 (gl (I.M (I.st s + k)))) (.float .f64 (I.share s))).run Try.prog w = .ok (.float .f64 (addw (gl (I.M (I.st s + k))) (I.share s))) w :=
                  fun w => run_float_arith w .add 34 .f64 _ _ _ hq.1
                have HL' : Hid (Arr (wr.setCell ⟨bl, I.M (I.st s + k), none⟩ (.float .f64 (addw (gl (I.M (I.st s + k))) (I.share s)))) bl I.e 34 (fun i => .float .f64 (upd gl (I.M (I.st s + k)) (addw (gl (I.M (I.st s + k))) (I.share s)) i))) :=
                  (hL.set (I.M (I.st s + k)) (.float .f64 _)).congr (fun i _ => by rw [floats_upd])
                have HS' : Hid (∀ v : Value, Arr (wr.setCell ⟨bl, I.M (I.st s + k), none⟩ v) bs I.n 34 (fun i => .float .f64 (I.shB (s + 1) i))) := fun v => hS.setOther HNE.out.1 _ _
                have HC' : Hid (∀ v : Value, Arr (wr.setCell ⟨bl, I.M (I.st s + k), none⟩ v) bc I.e 34 (fun i => .float .f64 (I.cut i))) := fun v => hC.setOther HNE.out.2.2.symm _ _
                have HO' : Hid (∀ v : Value, Only [bs, bl, bc] w (wr.setCell ⟨bl, I.M (I.st s + k), none⟩ v)) := fun v => ho.setCell (p := ⟨bl, I.M (I.st s + k), none⟩) (fun _ => by simp) v
                have HG' : Hid (∀ i, upd gl (I.M (I.st s + k)) (addw (gl (I.M (I.st s + k))) (I.share s)) i ≤ INF) := fun i => by
                  unfold upd
                  split
                  · exact hq.2
                  · exact hgl.out i
                clear hS hL hC ho hEr hmm hml hx2 hkE hgl hq
                obtain ⟨ng, hng⟩ : ∃ ng, upd gl (I.M (I.st s + k)) (addw (gl (I.M (I.st s + k))) (I.share s)) = ng := ⟨_, rfl⟩
                rw [hng] at HL' HG'
                clear hng
                generalize addw (gl (I.M (I.st s + k))) (I.share s) = z at *
                generalize gl (I.M (I.st s + k)) = ld at *
                generalize I.M (I.st s + k) = m at *
                generalize I.share s = os at *
                go_upto_region 42 with fail
                go_big_region
                go_wp2_with fail
                go_roundg (gk - 1)
                case measure => omega
                case rel => exact ⟨k + 1, ng, by omega, by go_num, (HS'.out _).drew, HL'.out.drew, (HC'.out _).drew, (HO'.out _).drew, HG'.out⟩
              · obtain rfl : k = d := by omega
                go_wp2_with fail
                go_roundg (g0 - 1)
                case measure => omega
                case rel => exact ⟨s + 1, gl, by omega, by go_num, hS, hL, hC, ho, hgl⟩
        · obtain rfl : s = I.n := by omega
          go_wp2_with fail
          go_end0
          exact ⟨rfl, hS.congr (fun i hi => by unfold Cin.shB; rw [if_pos hi]), ho⟩

end Go.Proofs.Qxb6601548a
