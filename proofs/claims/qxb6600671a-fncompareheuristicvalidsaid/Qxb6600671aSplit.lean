/- 'split', walked. -/
import Derived.Test.Qxb6600671aAdvance
import Derived.Test.Qxb6600671aFurthest
import Derived.Test.Qxb6600671aSplitLaw
import Derived.Deep.RegionWith
namespace Go.Proofs.Qxb6600671a
open Go.RowKit

/-- The memory in which 'split' works: five boxes of its own (from w's size on), the search, its two rows. -/
structure PMem (w wr : World) (bs ba bb bf bk N M off cb alo ahi blo bhi : Nat) (a b F G : Nat → Int) (vd vi : Value) : Prop where
  Q1 : QMem wr w.heap.size (w.heap.size + 1) (w.heap.size + 1 + 1 + 1) bs ba bb N M alo blo off a b
  Q2 : QMem wr w.heap.size (w.heap.size + 1 + 1) (w.heap.size + 1 + 1 + 1 + 1) bs ba bb N M ahi bhi off a b
  S : SMem wr bs (some ⟨ba, 0, none⟩) (some ⟨bb, 0, none⟩) vd vi bf bk N M off cb
  rf : Arr wr bf (2 * off + 1) 3 (fun i => .int .i64 (F i))
  rk : Arr wr bk (2 * off + 1) 3 (fun i => .int .i64 (G i))
  O : Only [bf, bk] w wr

/-- The search's blocks are as many as they seem. -/
structure Apart (w : World) (bs ba bb bf bk : Nat) : Prop where
  fk : bf ≠ bk
  sf : bs ≠ bf
  sk : bs ≠ bk
  af : ba ≠ bf
  ak : ba ≠ bk
  bf' : bb ≠ bf
  bk' : bb ≠ bk
  lf : bf < w.heap.size
  lk : bk < w.heap.size

theorem PMem.drewN {w wr : World} {bs ba bb bf bk N M off cb alo ahi blo bhi : Nat} {a b F G : Nat → Int} {vd vi : Value} (h : PMem w wr bs ba bb bf bk N M off cb alo ahi blo bhi a b F G vd vi) (q : Nat) :
    PMem w (wr.drewN q) bs ba bb bf bk N M off cb alo ahi blo bhi a b F G vd vi :=
  ⟨h.Q1.drewN q, h.Q2.drewN q, h.S.keep rfl, h.rf.keep rfl, h.rk.keep rfl, h.O.drewN q⟩

theorem PMem.fwd {w wr w' : World} {bs ba bb bf bk N M off cb alo ahi blo bhi : Nat} {a b F F' G : Nat → Int} {vd vi : Value} (h : PMem w wr bs ba bb bf bk N M off cb alo ahi blo bhi a b F G vd vi) (A : Apart w bs ba bb bf bk)
    (ho : Only [bf] wr w') (hf : Arr w' bf (2 * off + 1) 3 (fun i => .int .i64 (F' i))) : PMem w w' bs ba bb bf bk N M off cb alo ahi blo bhi a b F' G vd vi := by
  have hl := A.lf
  have key : ∀ k, k ≠ bf → k < wr.heap.size → w'.heap[k]? = wr.heap[k]? := fun k h1 h2 => ho.block k h2 (by simpa using h1)
  have l5 := World.block_lt_of_cell? _ _ h.Q1.c5
  have l6 := World.block_lt_of_cell? _ _ h.Q1.c6
  have l8 := World.block_lt_of_cell? _ _ h.Q1.c8
  have l7 := World.block_lt_of_cell? _ _ h.Q2.c6
  have l9 := World.block_lt_of_cell? _ _ h.Q2.c8
  simp only at l5 l6 l8 l7 l9
  exact ⟨h.Q1.keep (key _ (by omega) l5) (key _ (by omega) l6) (key _ (by omega) l8) (key _ A.sf h.S.lt) (key _ A.af h.Q1.ra.lt) (key _ A.bf' h.Q1.rb.lt),
    h.Q2.keep (key _ (by omega) l5) (key _ (by omega) l7) (key _ (by omega) l9) (key _ A.sf h.S.lt) (key _ A.af h.Q1.ra.lt) (key _ A.bf' h.Q1.rb.lt),
    h.S.keep (key _ A.sf h.S.lt), hf, h.rk.keep (key _ (Ne.symm A.fk) h.rk.lt), h.O.trans (ho.mono (by simp))⟩

theorem PMem.bwd {w wr w' : World} {bs ba bb bf bk N M off cb alo ahi blo bhi : Nat} {a b F G G' : Nat → Int} {vd vi : Value} (h : PMem w wr bs ba bb bf bk N M off cb alo ahi blo bhi a b F G vd vi) (A : Apart w bs ba bb bf bk)
    (ho : Only [bk] wr w') (hk : Arr w' bk (2 * off + 1) 3 (fun i => .int .i64 (G' i))) : PMem w w' bs ba bb bf bk N M off cb alo ahi blo bhi a b F G' vd vi := by
  have hl := A.lk
  have key : ∀ k, k ≠ bk → k < wr.heap.size → w'.heap[k]? = wr.heap[k]? := fun k h1 h2 => ho.block k h2 (by simpa using h1)
  have l5 := World.block_lt_of_cell? _ _ h.Q1.c5
  have l6 := World.block_lt_of_cell? _ _ h.Q1.c6
  have l8 := World.block_lt_of_cell? _ _ h.Q1.c8
  have l7 := World.block_lt_of_cell? _ _ h.Q2.c6
  have l9 := World.block_lt_of_cell? _ _ h.Q2.c8
  simp only at l5 l6 l8 l7 l9
  exact ⟨h.Q1.keep (key _ (by omega) l5) (key _ (by omega) l6) (key _ (by omega) l8) (key _ A.sk h.S.lt) (key _ A.ak h.Q1.ra.lt) (key _ A.bk' h.Q1.rb.lt),
    h.Q2.keep (key _ (by omega) l5) (key _ (by omega) l7) (key _ (by omega) l9) (key _ A.sk h.S.lt) (key _ A.ak h.Q1.ra.lt) (key _ A.bk' h.Q1.rb.lt),
    h.S.keep (key _ A.sk h.S.lt), h.rf.keep (key _ A.fk h.rf.lt), hk, h.O.trans (ho.mono (by simp))⟩

/-- What 'split' comes to. -/
def SplitPost (bf bk off cb alo blo n m : Nat) (f g : Nat → Int) (w : World) (e : Ending) (w' : World) : Prop :=
  ∃ x y : Int, e = .returned (.tuple #[.int .i64 ((alo : Int) + x), .int .i64 ((blo : Int) + y)]) ∧ SplitOK n m x y ∧ (n + m ≤ cb → Opt f g n m x y) ∧
    ∃ F G : Nat → Int, Arr w' bf (2 * off + 1) 3 (fun i => .int .i64 (F i)) ∧ Arr w' bk (2 * off + 1) 3 (fun i => .int .i64 (G i)) ∧ Only [bf, bk] w w'

theorem pmem_start {w wr : World} {bs ba bb bf bk N M off cb alo ahi blo bhi : Nat} {a b F G : Nat → Int} {vd vi : Value}
    (hS : SMem w bs (some ⟨ba, 0, none⟩) (some ⟨bb, 0, none⟩) vd vi bf bk N M off cb) (ra : Arr w ba N 3 (fun i => .int .i64 (a i))) (rb : Arr w bb M 3 (fun i => .int .i64 (b i)))
    (rf : Arr w bf (2 * off + 1) 3 (fun i => .int .i64 (F i))) (rk : Arr w bk (2 * off + 1) 3 (fun i => .int .i64 (G i))) (ho : Only [] w wr)
    (c5 : wr.cell? ⟨w.heap.size, 0, none⟩ = some (.pointer (some ⟨bs, 0, none⟩))) (c6 : wr.cell? ⟨w.heap.size + 1, 0, none⟩ = some (.int .i64 alo)) (c7 : wr.cell? ⟨w.heap.size + 1 + 1, 0, none⟩ = some (.int .i64 ahi))
    (c8 : wr.cell? ⟨w.heap.size + 1 + 1 + 1, 0, none⟩ = some (.int .i64 blo)) (c9 : wr.cell? ⟨w.heap.size + 1 + 1 + 1 + 1, 0, none⟩ = some (.int .i64 bhi)) : PMem w wr bs ba bb bf bk N M off cb alo ahi blo bhi a b F G vd vi := by
  have s := hS.keep (ho.block bs hS.lt (by simp))
  exact ⟨⟨c5, c6, c8, s.fa, s.fb, s.fo, ho.arr ra (by simp), ho.arr rb (by simp)⟩, ⟨c5, c7, c9, s.fa, s.fb, s.fo, ho.arr ra (by simp), ho.arr rb (by simp)⟩, s, ho.arr rf (by simp), ho.arr rk (by simp), ho.mono (by simp)⟩

theorem tmod_odd (z : Int) : ((z.tmod 2 != 0) = true) ↔ z % 2 ≠ 0 := by
  rw [bne_iff_ne]
  exact not_congr ⟨fun h => Int.emod_eq_zero_of_dvd (Int.dvd_of_tmod_eq_zero h), fun h => Int.tmod_eq_zero_of_dvd (Int.dvd_of_emod_eq_zero h)⟩

/-- The test's answer: do the searches meet here? -/
def FRes (n m off : Nat) (d k : Int) (F G : Nat → Int) (od t : Bool) : Prop := t = true ↔ od = true ∧ FMeet n m off d k F G
def BRes (n m off : Nat) (d k : Int) (F G : Nat → Int) (od t : Bool) : Prop := t = true ↔ od = false ∧ BMeet n m off d k F G
theorem FRes.no {n m off : Nat} {d k : Int} {F G : Nat → Int} {od : Bool} (h : ¬ (od = true ∧ FMeet n m off d k F G)) : FRes n m off d k F G od false := ⟨(fun e => by cases e), fun e => absurd e h⟩
theorem FRes.yes {n m off : Nat} {d k : Int} {F G : Nat → Int} {od : Bool} (h : od = true ∧ FMeet n m off d k F G) : FRes n m off d k F G od true := ⟨fun _ => h, fun _ => rfl⟩
theorem BRes.no {n m off : Nat} {d k : Int} {F G : Nat → Int} {od : Bool} (h : ¬ (od = false ∧ BMeet n m off d k F G)) : BRes n m off d k F G od false := ⟨(fun e => by cases e), fun e => absurd e h⟩
theorem BRes.yes {n m off : Nat} {d k : Int} {F G : Nat → Int} {od : Bool} (h : od = false ∧ BMeet n m off d k F G) : BRes n m off d k F G od true := ⟨fun _ => h, fun _ => rfl⟩

set_option maxRecDepth 100000 in
set_option maxHeartbeats 8000000 in
theorem split_any (bs ba bb bf bk N M off cb alo n blo m : Nat) (a b F0 G0 : Nat → Int) (vd vi : Value) (w : World) (hN : N ≤ 1048576) (hM_ : M ≤ 1048576) (hn : 1 ≤ n) (hm : 1 ≤ m) (hnN : alo + n ≤ N) (hmM : blo + m ≤ M) (hoff : N + M + 2 ≤ off) (hoff2 : off ≤ 4194304) (hcb : 1 ≤ cb) (hcb2 : cb ≤ 4194304)
    (hS : SMem w bs (some ⟨ba, 0, none⟩) (some ⟨bb, 0, none⟩) vd vi bf bk N M off cb) (ra : Arr w ba N 3 (fun i => .int .i64 (a i))) (rb : Arr w bb M 3 (fun i => .int .i64 (b i)))
    (rf : Arr w bf (2 * off + 1) 3 (fun i => .int .i64 (F0 i))) (rk : Arr w bk (2 * off + 1) 3 (fun i => .int .i64 (G0 i))) (AP : Apart w bs ba bb bf bk)
    (hfirst : a alo ≠ b blo) (hlast : a (alo + n - 1) ≠ b (blo + m - 1)) :
    Calls Try.prog 37 #[.pointer (some ⟨bs, 0, none⟩), .int .i64 alo, .int .i64 ((alo + n : Nat) : Int), .int .i64 blo, .int .i64 ((blo + m : Nat) : Int)] w fun e w' => SplitPost bf bk off cb alo blo n m (fun i => a (alo + i)) (fun j => b (blo + j)) w e w' := by
  have hT2 : 2 ≤ Dd (fun i => a (alo + i)) (fun j => b (blo + j)) n m := by
    refine (geo (fun i => a (alo + i)) (fun j => b (blo + j)) n m).two (by omega) (by omega) (by simpa using hfirst) ?_
    show ¬ a (alo + ((n : Int) - 1).toNat) = b (blo + ((m : Int) - 1).toNat)
    rw [show alo + ((n : Int) - 1).toNat = alo + n - 1 by omega, show blo + ((m : Int) - 1).toNat = blo + m - 1 by omega]
    exact hlast
  have hTh : Dd (fun i => a (alo + i)) (fun j => b (blo + j)) n m ≤ n + m := (geo (fun i => a (alo + i)) (fun j => b (blo + j)) n m).dhi n m (by omega) (Int.le_refl _) (by omega) (Int.le_refl _)
  clear hfirst hlast
  generalize hfe : (fun i => a (alo + i)) = f at *
  generalize hge : (fun j => b (blo + j)) = g at *
  have Hf : Hid ((fun i => a (alo + i)) = f) := hfe
  have Hg : Hid ((fun j => b (blo + j)) = g) := hge
  clear hfe hge
  generalize hTe : Dd f g n m = T at *
  have HT : Hid (Dd f g n m = T) := hTe
  clear hTe
  go_enter Try.func37, Try.ntmps37
  go_upto_region 1 with fail
  go_cut [12, 13] from 28 to 33 (fun s t wx => s = .int .i64 n ∧ t = .int .i64 m ∧ PMem w wx bs ba bb bf bk N M off cb alo (alo + n) blo (blo + m) a b F0 G0 vd vi)
  case first =>
    have hM0 : PMem w (((((w.alloc (.cells #[.pointer (some ⟨bs, 0, none⟩)] 44)).alloc (.cells #[.int .i64 alo] 3)).alloc (.cells #[.int .i64 ((alo + n : Nat) : Int)] 3)).alloc (.cells #[.int .i64 blo] 3)).alloc (.cells #[.int .i64 ((blo + m : Nat) : Int)] 3)) bs ba bb bf bk N M off cb alo (alo + n) blo (blo + m) a b F0 G0 vd vi :=
      pmem_start hS ra rb rf rk ((((((Only.refl _ _).alloc _).alloc _).alloc _).alloc _).alloc _) (by go_simp) (by go_simp) (by go_simp) (by go_simp) (by go_simp)
    go_quiet (fail)
    go_wp2_with fail
    go_meet
    case rel => exact ⟨by go_num, by go_num, hM0.drewN _⟩
  case rest =>
  obtain ⟨rfl, rfl, hM0⟩ := hcut
  clear hS ra rb rf rk
  go_upto_region 3 with fail
  go_cut [15] from 34 to 39 (fun s wx => wx = wc ∧ ∃ od : Bool, s = .bool od ∧ Aside (od = true ↔ ((n : Int) - m) % 2 ≠ 0))
  case first =>
    have hod : Aside (((((n : Int) - m).tmod 2 != 0) = true) ↔ ((n : Int) - m) % 2 ≠ 0) := tmod_odd _
    go_wp2_with fail
    go_meet
    case rel => exact ⟨rfl, _, rfl, hod⟩
  case rest =>
  obtain ⟨hw, od, rfl, hOd⟩ := hcut
  subst hw
  go_wp2_with fail
  go_loopg [18] (T.toNat + 2) (fun gk s wr => ∃ (d : Int) (F G : Nat → Int), s = .int .i64 d ∧ 0 ≤ d ∧ 2 * d - 1 ≤ T ∧ (T + 2 - d).toNat ≤ gk ∧ Aside (FGo f g n m off (d - 1) F ∧ BGo f g n m off (d - 1) G) ∧ PMem w wr bs ba bb bf bk N M off cb alo (alo + n) blo (blo + m) a b F G vd vi)
  case atStart => exact ⟨0, F0, G0, rfl, by omega, by omega, by omega, ⟨fun k h1 h2 _ => by omega, fun k h1 h2 _ => by omega⟩, hM0⟩
  case round =>
  clear hM0
  obtain ⟨d, F, G, rfl, hd0, hdT, hgd, hA, hM⟩ := hrel
  have hdo : d + 1 ≤ off := by omega
  go_upto_block 2 with fail
  go_cut [19, 20, 21] from 44 to 121 (fun s t u wx => ∃ F : Nat → Int, Aside (FGo f g n m off d F ∧ (od = true → 2 * d + 1 ≤ T)) ∧ PMem w wx bs ba bb bf bk N M off cb alo (alo + n) blo (blo + m) a b F G vd vi)
  case first => as_aux_lemma =>
    go_wp2_with fail
    go_loopg [19] (2 * d + 2).toNat (fun gk s wr => ∃ (k : Int) (F : Nat → Int), s = .int .i64 k ∧ k ≤ d ∧ -d - 2 ≤ k ∧ Aside ((k - d) % 2 = 0 ∧ (k + d + 2).toNat ≤ gk) ∧ Aside (FPart f g n m off od d k F G) ∧ PMem w wr bs ba bb bf bk N M off cb alo (alo + n) blo (blo + m) a b F G vd vi)
    case atStart => exact ⟨d, F, rfl, by omega, by omega, ⟨by omega, by omega⟩, ⟨hA.out.1, fun j h1 h2 _ => by omega⟩, hM⟩
    case round => as_aux_lemma =>
      clear hM
      obtain ⟨k, F1, rfl, hk2, hk1, hkp, hP, hM⟩ := hrel
      by_cases hkd : -d ≤ k
      · obtain ⟨w2, rfl⟩ : ∃ w2 : World, w2 = wr := ⟨_, rfl⟩
        have hcall := fun q => advanceFwd w.heap.size (w.heap.size + 1) (w.heap.size + 1 + 1 + 1) bs ba bb bf N M alo blo off a b F1 k d n m (w2.drewN q) hN hM_ hoff2 hd0 hkd hk2 hdo (by omega) (by omega)
          (fun h => by rcases (old_lo hP.out.old hk2 hkp.out.1 hdo h).snd with s | s <;> omega) (fun h => by rcases (old_hi hP.out.old hkd hkp.out.1 h).snd with s | s <;> omega) (cand_in hP.out.old hkd hk2 hkp.out.1 hdo) (hM.Q1.drewN q) (hM.rf.keep rfl)
        have HC : Hid _ := hcall
        clear hcall
        have c5 := hM.Q1.c5
        have cf := hM.S.ff
        go_upto_region 11 with fail
        go_cut [20] from 45 to 121 (fun s wx => ∃ x : Int, s = .int .i64 x ∧ -1 ≤ x ∧ x ≤ n ∧ Aside (Pt n m (Dd f g) (Ee f g n m) d k x) ∧ PMem w wx bs ba bb bf bk N M off cb alo (alo + n) blo (blo + m) a b (upd F1 (↑off + k).toNat x) G vd vi)
        case first => as_aux_lemma =>
          go_region_with (go_at_call 41; refine Calls.mono (HC.out 1) ?_; rintro e w' ⟨x, rfl, hS, hA', hO⟩)
          all_goals
            have hPt : Pt n m (Dd f g) (Ee f g n m) d k x := new_pt hP.out.old hd0 hkd hk2 hkp.out.1 hdo (by rw [← Hf.out, ← Hg.out]; exact hS)
            have hxr : -1 ≤ x ∧ x ≤ n := by rcases hPt.snd with s | s <;> omega
            have hMx := (hM.drewN 1).fwd AP hO hA'
            have HX : Hid (Pt n m (Dd f g) (Ee f g n m) d k x ∧ -1 ≤ x ∧ x ≤ n) := ⟨hPt, hxr⟩
            clear hPt hxr hS hA' hO HC
            go_wp2_with fail
            go_meet
            case rel => exact ⟨x, rfl, HX.out.2.1, HX.out.2.2, HX.out.1, hMx⟩
        case rest => as_aux_lemma =>
          clear c5 cf HC
          obtain ⟨x, rfl, hx1, hx2, hPt, hM2⟩ := hcut
          clear hM
          have hPt' : Aside (Pt n m (Dd f g) (Ee f g n m) d k (upd F1 (↑off + k).toNat x (↑off + k).toNat)) := by rw [upd_same]; exact hPt.out
          have c5 := hM2.Q1.c5
          have fk := hM2.S.fk
          have fo := hM2.S.fo
          have ckc : -d < (n : Int) - m - k → (n : Int) - m - k < d → wc.cell? ⟨bk, (↑off + ((n : Int) - m - k)).toNat, none⟩ = some (.int .i64 (G (↑off + ((n : Int) - m - k)).toNat)) := fun h1 h2 => hM2.rk.cell (by omega)
          have CK : Hid _ := ckc
          have hGb : od = true → -d < (n : Int) - m - k → (n : Int) - m - k < d → -1 ≤ G (↑off + ((n : Int) - m - k)).toNat ∧ G (↑off + ((n : Int) - m - k)).toNat ≤ n := by
            intro ho h1 h2
            have h3 := hOd.out.1 ho
            have h4 := hkp.out.1
            rcases (hA.out.2 ((n : Int) - m - k) (by omega) (by omega) (by omega)).snd with s | s <;> omega
          have HGB : Hid _ := hGb
          clear ckc hGb
          have hMe : Hid (FMeet n m off d k (upd F1 (↑off + k).toNat x) G ↔ 0 ≤ x ∧ -d < (n : Int) - m - k ∧ (n : Int) - m - k < d ∧ 0 ≤ G (↑off + ((n : Int) - m - k)).toNat ∧ (n : Int) ≤ x + G (↑off + ((n : Int) - m - k)).toNat) := by
            unfold FMeet; rw [upd_same]; exact Iff.rfl
          generalize G (↑off + ((n : Int) - m - k)).toNat = gv at *
          obtain ⟨w4, rfl⟩ : ∃ w4 : World, w4 = wc := ⟨_, rfl⟩
          go_upto_region 13 with fail
          go_cut [113] from 45 to 121 (fun c wx => (∃ q, wx = w4.drewN q) ∧ ∃ t : Bool, c = .bool t ∧ FRes n m off d k (upd F1 (↑off + k).toNat x) G od t)
          case first => as_aux_lemma =>
            by_cases g1 : 0 ≤ x
            · cases od
              · go_quiet (fail)
                go_wp2_with fail
                go_meet
                case rel => exact ⟨⟨_, rfl⟩, false, rfl, FRes.no (fun h => by cases h.1)⟩
              · by_cases g2 : -d < (n : Int) - m - k
                · by_cases g3 : (n : Int) - m - k < d
                  · have cgv := CK.out g2 g3
                    obtain ⟨gb1, gb2⟩ := HGB.out rfl g2 g3
                    by_cases g4 : 0 ≤ gv
                    · by_cases g5 : (n : Int) ≤ x + gv
                      · have HR : FRes n m off d k (upd F1 (↑off + k).toNat x) G true true := FRes.yes ⟨rfl, hMe.out.2 ⟨g1, g2, g3, g4, g5⟩⟩
                        go_quiet (fail)
                        go_wp2_with fail
                        go_meet
                        case rel => exact ⟨⟨_, rfl⟩, true, rfl, HR⟩
                      · have HR : FRes n m off d k (upd F1 (↑off + k).toNat x) G true false := FRes.no (fun h => absurd (hMe.out.1 h.2).2.2.2.2 g5)
                        have g6 : decide ((n : Int) ≤ x + gv) = false := decide_eq_false g5
                        go_quiet (fail)
                        go_wp2_with fail
                        go_meet
                        case rel => exact ⟨⟨_, rfl⟩, false, rfl, HR⟩
                    · have HR : FRes n m off d k (upd F1 (↑off + k).toNat x) G true false := FRes.no (fun h => absurd (hMe.out.1 h.2).2.2.2.1 g4)
                      have g6 : decide ((0 : Int) ≤ gv) = false := decide_eq_false g4
                      go_quiet (fail)
                      go_wp2_with fail
                      go_meet
                      case rel => exact ⟨⟨_, rfl⟩, false, rfl, HR⟩
                  · have HR : FRes n m off d k (upd F1 (↑off + k).toNat x) G true false := FRes.no (fun h => absurd (hMe.out.1 h.2).2.2.1 g3)
                    have g6 : decide ((n : Int) - m - k < d) = false := decide_eq_false g3
                    go_quiet (fail)
                    go_wp2_with fail
                    go_meet
                    case rel => exact ⟨⟨_, rfl⟩, false, rfl, HR⟩
                · have HR : FRes n m off d k (upd F1 (↑off + k).toNat x) G true false := FRes.no (fun h => absurd (hMe.out.1 h.2).2.1 g2)
                  have g6 : decide (-d < (n : Int) - m - k) = false := decide_eq_false g2
                  go_quiet (fail)
                  go_wp2_with fail
                  go_meet
                  case rel => exact ⟨⟨_, rfl⟩, false, rfl, HR⟩
            · have HR : FRes n m off d k (upd F1 (↑off + k).toNat x) G od false := FRes.no (fun h => absurd (hMe.out.1 h.2).1 g1)
              have g6 : decide ((0 : Int) ≤ x) = false := decide_eq_false g1
              go_quiet (fail)
              go_wp2_with fail
              go_meet
              case rel => exact ⟨⟨_, rfl⟩, false, rfl, HR⟩
          case rest => as_aux_lemma =>
            obtain ⟨⟨q4, hw⟩, t, rfl, hTT⟩ := hcut
            subst hw
            have hM3 := hM2.drewN q4
            have c6 := hM2.Q1.c6
            have c8 := hM2.Q1.c8
            clear hM2 c5 fk fo CK HGB hMe
            cases t
            · have hP2 : Aside (FPart f g n m off od d (k - 2) (upd F1 (↑off + k).toNat x) G) := hP.out.step hkd hk2 hkp.out.1 hdo (fun j => rfl) hPt.out (fun ho hm => by have := hTT.2 ⟨ho, hm⟩; cases this)
              have HK := hkp.out
              have HKK : Hid _ := HK
              clear HK hTT hPt hPt' hP
              go_wp2_with fail
              go_roundg (gk - 1)
              case measure => have := HKK.out; omega
              case rel => exact ⟨k - 2, upd F1 (↑off + k).toNat x, rfl, by omega, by omega, ⟨by have := HKK.out; omega, by have := HKK.out; omega⟩, hP2, hM3⟩
            · have hmm := hTT.1 rfl
              have hfin := fmeet_ok (by rw [HT.out]; exact hT2) (by rw [HT.out]; exact hdT) (hOd.out.1 hmm.1) hkp.out.1 hPt'.out hA.out.2 hmm.2
              rw [upd_same] at hfin
              have HFIN : Hid _ := hfin
              clear hmm hfin hTT hPt hPt' hP
              go_wp2_with fail
              go_quiet (fail)
              go_wp2_with fail
              go_ret2
              refine ⟨x, x - k, ?_, HFIN.out.1, fun _ => HFIN.out.2, upd F1 ((off : Int) + k).toNat x, G, hM3.rf.keep rfl, hM3.rk.keep rfl, hM3.O.drewN _⟩
              show Ending.returned (.tuple #[.int .i64 ((alo : Int) + x), .int .i64 ((blo : Int) + x - k)]) = _
              rw [show (blo : Int) + (x - k) = blo + x - k by omega]
      · have hF' : FGo f g n m off d F1 := fun j h1 h2 h3 => (hP.out.done j (by omega) h2 h3).1
        have A' : Aside (FGo f g n m off d F1 ∧ (od = true → 2 * d + 1 ≤ T)) := ⟨hF', fun ho => by
          have := fno_meet hd0 (by rw [HT.out]; exact hdT) (hOd.out.1 ho) hF' hA.out.2 (fun j h1 h2 h3 => (hP.out.done j (by omega) h2 h3).2 ho)
          rw [HT.out] at this
          exact this⟩
        clear hF'
        go_wp2_with fail
        go_meet
        case rel => exact ⟨F1, A', hM⟩
  case rest =>
  clear hM
  obtain ⟨F2, hA2, hM⟩ := hcut
  go_upto_block 4 with fail
  go_cut [22, 23, 24] from 122 to 200 (fun s t u wx => ∃ G : Nat → Int, Aside (BGo f g n m off d G ∧ 2 * d + 1 ≤ T) ∧ PMem w wx bs ba bb bf bk N M off cb alo (alo + n) blo (blo + m) a b F2 G vd vi)
  case first => as_aux_lemma =>
    go_wp2_with fail
    go_loopg [22] (2 * d + 2).toNat (fun gk s wr => ∃ (k : Int) (G : Nat → Int), s = .int .i64 k ∧ -d ≤ k ∧ k ≤ d + 2 ∧ Aside ((k - d) % 2 = 0 ∧ (d + 2 - k).toNat ≤ gk) ∧ Aside (BPart f g n m off od d k F2 G) ∧ PMem w wr bs ba bb bf bk N M off cb alo (alo + n) blo (blo + m) a b F2 G vd vi)
    case atStart => exact ⟨-d, G, rfl, by omega, by omega, ⟨by omega, by omega⟩, ⟨hA.out.2, fun j h1 h2 _ => by omega⟩, hM⟩
    case round => as_aux_lemma =>
      clear hM
      obtain ⟨k, G1, rfl, hkd, hk1, hkp, hP, hM⟩ := hrel
      by_cases hk2 : k ≤ d
      · obtain ⟨w2, rfl⟩ : ∃ w2 : World, w2 = wr := ⟨_, rfl⟩
        have hcall := fun q => advanceBwd w.heap.size (w.heap.size + 1 + 1) (w.heap.size + 1 + 1 + 1 + 1) bs ba bb bk N M (alo + n) (blo + m) off a b G1 k d n m (w2.drewN q) hN hM_ hoff2 hd0 hkd hk2 hdo (by omega) (by omega) hnN hmM
          (fun h => by rcases (old_lo hP.out.old hk2 hkp.out.1 hdo h).snd with s | s <;> omega) (fun h => by rcases (old_hi hP.out.old hkd hkp.out.1 h).snd with s | s <;> omega) (cand_in hP.out.old hkd hk2 hkp.out.1 hdo) (hM.Q2.drewN q) (hM.rk.keep rfl)
        have HC : Hid _ := hcall
        clear hcall
        have c5 := hM.Q1.c5
        have cf := hM.S.fk
        go_upto_region 18 with fail
        go_cut [23] from 124 to 200 (fun s wx => ∃ x : Int, s = .int .i64 x ∧ -1 ≤ x ∧ x ≤ n ∧ Aside (Pt n m (Dd (rev n f) (rev m g)) (Ee (rev n f) (rev m g) n m) d k x) ∧ PMem w wx bs ba bb bf bk N M off cb alo (alo + n) blo (blo + m) a b F2 (upd G1 (↑off + k).toNat x) vd vi)
        case first => as_aux_lemma =>
          go_region_with (go_at_call 41; refine Calls.mono (HC.out 1) ?_; rintro e w' ⟨x, rfl, hS, hA', hO⟩)
          all_goals
            have hPt : Pt n m (Dd (rev n f) (rev m g)) (Ee (rev n f) (rev m g) n m) d k x := new_pt hP.out.old hd0 hkd hk2 hkp.out.1 hdo (hS.congr (fun h => cand_in hP.out.old hkd hk2 hkp.out.1 hdo h) (fun t t1 t2 t3 t4 => by
              rw [← Hf.out, ← Hg.out]
              show a (alo + n - 1 - t.toNat) = b (blo + m - 1 - (t - k).toNat) ↔ a (alo + (n - 1 - t.toNat)) = b (blo + (m - 1 - (t - k).toNat))
              rw [show alo + (n - 1 - t.toNat) = alo + n - 1 - t.toNat by omega, show blo + (m - 1 - (t - k).toNat) = blo + m - 1 - (t - k).toNat by omega]))
            have hxr : -1 ≤ x ∧ x ≤ n := by rcases hPt.snd with s | s <;> omega
            have hMx := (hM.drewN 1).bwd AP hO hA'
            have HX : Hid (Pt n m (Dd (rev n f) (rev m g)) (Ee (rev n f) (rev m g) n m) d k x ∧ -1 ≤ x ∧ x ≤ n) := ⟨hPt, hxr⟩
            clear hPt hxr hS hA' hO HC
            go_wp2_with fail
            go_meet
            case rel => exact ⟨x, rfl, HX.out.2.1, HX.out.2.2, HX.out.1, hMx⟩
        case rest => as_aux_lemma =>
          clear c5 cf HC
          obtain ⟨x, rfl, hx1, hx2, hPt, hM2⟩ := hcut
          clear hM
          have hPt' : Aside (Pt n m (Dd (rev n f) (rev m g)) (Ee (rev n f) (rev m g) n m) d k (upd G1 (↑off + k).toNat x (↑off + k).toNat)) := by rw [upd_same]; exact hPt.out
          have c5 := hM2.Q1.c5
          have fk := hM2.S.ff
          have fo := hM2.S.fo
          have ckc : -d ≤ (n : Int) - m - k → (n : Int) - m - k ≤ d → wc.cell? ⟨bf, (↑off + ((n : Int) - m - k)).toNat, none⟩ = some (.int .i64 (F2 (↑off + ((n : Int) - m - k)).toNat)) := fun h1 h2 => hM2.rf.cell (by omega)
          have CK : Hid _ := ckc
          have hGb : od = false → -d ≤ (n : Int) - m - k → (n : Int) - m - k ≤ d → -1 ≤ F2 (↑off + ((n : Int) - m - k)).toNat ∧ F2 (↑off + ((n : Int) - m - k)).toNat ≤ n := by
            intro ho h1 h2
            have h3 : ((n : Int) - m) % 2 = 0 := by
              by_cases h : ((n : Int) - m) % 2 = 0
              · exact h
              · have := hOd.out.2 h; rw [ho] at this; cases this
            have h4 := hkp.out.1
            rcases (hA2.out.1 ((n : Int) - m - k) (by omega) (by omega) (by omega)).snd with s | s <;> omega
          have HGB : Hid _ := hGb
          clear ckc hGb
          have hMe : Hid (BMeet n m off d k F2 (upd G1 (↑off + k).toNat x) ↔ 0 ≤ x ∧ -d ≤ (n : Int) - m - k ∧ (n : Int) - m - k ≤ d ∧ 0 ≤ F2 (↑off + ((n : Int) - m - k)).toNat ∧ (n : Int) ≤ x + F2 (↑off + ((n : Int) - m - k)).toNat) := by
            unfold BMeet; rw [upd_same]; exact Iff.rfl
          generalize F2 (↑off + ((n : Int) - m - k)).toNat = gv at *
          obtain ⟨w4, rfl⟩ : ∃ w4 : World, w4 = wc := ⟨_, rfl⟩
          go_upto_region 20 with fail
          go_cut [192] from 124 to 200 (fun c wx => (∃ q, wx = w4.drewN q) ∧ ∃ t : Bool, c = .bool t ∧ BRes n m off d k F2 (upd G1 (↑off + k).toNat x) od t)
          case first => as_aux_lemma =>
            by_cases g1 : 0 ≤ x
            · cases od
              · by_cases g2 : -d ≤ (n : Int) - m - k
                · by_cases g3 : (n : Int) - m - k ≤ d
                  · have cgv := CK.out g2 g3
                    obtain ⟨gb1, gb2⟩ := HGB.out rfl g2 g3
                    by_cases g4 : 0 ≤ gv
                    · by_cases g5 : (n : Int) ≤ x + gv
                      · have HR : BRes n m off d k F2 (upd G1 (↑off + k).toNat x) false true := BRes.yes ⟨rfl, hMe.out.2 ⟨g1, g2, g3, g4, g5⟩⟩
                        go_quiet (fail)
                        go_wp2_with fail
                        go_meet
                        case rel => exact ⟨⟨_, rfl⟩, true, rfl, HR⟩
                      · have HR : BRes n m off d k F2 (upd G1 (↑off + k).toNat x) false false := BRes.no (fun h => absurd (hMe.out.1 h.2).2.2.2.2 g5)
                        have g6 : decide ((n : Int) ≤ x + gv) = false := decide_eq_false g5
                        go_quiet (fail)
                        go_wp2_with fail
                        go_meet
                        case rel => exact ⟨⟨_, rfl⟩, false, rfl, HR⟩
                    · have HR : BRes n m off d k F2 (upd G1 (↑off + k).toNat x) false false := BRes.no (fun h => absurd (hMe.out.1 h.2).2.2.2.1 g4)
                      have g6 : decide ((0 : Int) ≤ gv) = false := decide_eq_false g4
                      go_quiet (fail)
                      go_wp2_with fail
                      go_meet
                      case rel => exact ⟨⟨_, rfl⟩, false, rfl, HR⟩
                  · have HR : BRes n m off d k F2 (upd G1 (↑off + k).toNat x) false false := BRes.no (fun h => absurd (hMe.out.1 h.2).2.2.1 g3)
                    have g6 : decide ((n : Int) - m - k ≤ d) = false := decide_eq_false g3
                    go_quiet (fail)
                    go_wp2_with fail
                    go_meet
                    case rel => exact ⟨⟨_, rfl⟩, false, rfl, HR⟩
                · have HR : BRes n m off d k F2 (upd G1 (↑off + k).toNat x) false false := BRes.no (fun h => absurd (hMe.out.1 h.2).2.1 g2)
                  have g6 : decide (-d ≤ (n : Int) - m - k) = false := decide_eq_false g2
                  go_quiet (fail)
                  go_wp2_with fail
                  go_meet
                  case rel => exact ⟨⟨_, rfl⟩, false, rfl, HR⟩
              · go_quiet (fail)
                go_wp2_with fail
                go_meet
                case rel => exact ⟨⟨_, rfl⟩, false, rfl, BRes.no (fun h => by cases h.1)⟩
            · have HR : BRes n m off d k F2 (upd G1 (↑off + k).toNat x) od false := BRes.no (fun h => absurd (hMe.out.1 h.2).1 g1)
              have g6 : decide ((0 : Int) ≤ x) = false := decide_eq_false g1
              go_quiet (fail)
              go_wp2_with fail
              go_meet
              case rel => exact ⟨⟨_, rfl⟩, false, rfl, HR⟩
          case rest => as_aux_lemma =>
            obtain ⟨⟨q4, hw⟩, t, rfl, hTT⟩ := hcut
            subst hw
            have hM3 := hM2.drewN q4
            have c6 := hM2.Q2.c6
            have c8 := hM2.Q2.c8
            rw [show ((alo + n : Nat) : Int) = (alo : Int) + n by omega] at c6
            rw [show ((blo + m : Nat) : Int) = (blo : Int) + m by omega] at c8
            clear hM2 c5 fk fo CK HGB hMe
            cases t
            · have hP2 : Aside (BPart f g n m off od d (k + 2) F2 (upd G1 (↑off + k).toNat x)) := hP.out.step hkd hk2 hkp.out.1 hdo (fun j => rfl) hPt.out (fun ho hm => by have := hTT.2 ⟨ho, hm⟩; cases this)
              have HK := hkp.out
              have HKK : Hid _ := HK
              clear HK hTT hPt hPt' hP
              go_wp2_with fail
              go_roundg (gk - 1)
              case measure => have := HKK.out; omega
              case rel => exact ⟨k + 2, upd G1 (↑off + k).toNat x, rfl, by omega, by omega, ⟨by have := HKK.out; omega, by have := HKK.out; omega⟩, hP2, hM3⟩
            · have hmm := hTT.1 rfl
              have heven : ((n : Int) - m) % 2 = 0 := by
                by_cases h : ((n : Int) - m) % 2 = 0
                · exact h
                · have h5 := hOd.out.2 h; rw [hmm.1] at h5; cases h5
              have hfin := bmeet_ok (by rw [HT.out]; exact hT2) (by rw [HT.out]; exact hdT) heven hkp.out.1 hPt'.out hA2.out.1 hmm.2
              rw [upd_same] at hfin
              have HFIN : Hid _ := hfin
              clear hmm hfin hTT hPt hPt' hP heven
              go_wp2_with fail
              go_quiet (fail)
              go_wp2_with fail
              go_ret2
              refine ⟨(n : Int) - x, (m : Int) - (x - k), ?_, HFIN.out.1, fun _ => HFIN.out.2, F2, upd G1 ((off : Int) + k).toNat x, hM3.rf.keep rfl, hM3.rk.keep rfl, hM3.O.drewN _⟩
              show Ending.returned (.tuple #[.int .i64 ((alo : Int) + n - x), .int .i64 ((blo : Int) + m - (x - k))]) = _
              rw [show (alo : Int) + ((n : Int) - x) = alo + n - x by omega, show (blo : Int) + ((m : Int) - (x - k)) = blo + m - (x - k) by omega]
      · have hB' : BGo f g n m off d G1 := fun j h1 h2 h3 => (hP.out.done j h1 (by omega) h3).1
        have A' : Aside (BGo f g n m off d G1 ∧ 2 * d + 1 ≤ T) := ⟨hB', by
          by_cases h : ((n : Int) - m) % 2 = 0
          · have ho : od = false := by
              cases hod : od
              · rfl
              · exact absurd h (hOd.out.1 hod)
            have := bno_meet hd0 (by rw [HT.out]; exact hdT) h hA2.out.1 hB' (fun j h1 h2 h3 => (hP.out.done j h1 (by omega) h3).2 ho)
            rw [HT.out] at this
            exact this
          · exact hA2.out.2 (hOd.out.2 h)⟩
        clear hB'
        go_wp2_with fail
        go_meet
        case rel => exact ⟨G1, A', hM⟩
  case rest =>
  clear hM hA
  obtain ⟨G2, hA3, hM⟩ := hcut
  have hTd : 2 * d + 1 ≤ T := hA3.out.2
  have c5 := hM.Q1.c5
  have fc := hM.S.fc
  by_cases hcd : (cb : Int) ≤ d
  · have c6 := hM.Q1.c6
    have c8 := hM.Q1.c8
    have c7 := hM.Q2.c6
    have c9 := hM.Q2.c8
    rw [show ((alo + n : Nat) : Int) = (alo : Int) + n by omega] at c7
    rw [show ((blo + m : Nat) : Int) = (blo : Int) + m by omega] at c9
    have hfu := furthest_any bs bf bk off alo (alo + n) blo (blo + m) F2 G2 d wc hoff2 (by omega) (by omega) (by omega) (by omega) (by omega) hdo hM.S.ff hM.S.fk hM.S.fo hM.rf hM.rk
      (fun k h1 h2 h3 => by rcases (hA2.out.1 k h1 h2 h3).snd with s | s; exact .inl s; exact .inr ⟨by omega, by omega, by omega, by omega, by omega⟩)
      (fun k h1 h2 h3 => by rcases (hA3.out.1 k h1 h2 h3).snd with s | s; exact .inl s; exact .inr ⟨by omega, by omega, by omega, by omega, by omega⟩)
    rw [show ((alo + n : Nat) : Int) = (alo : Int) + n by omega, show ((blo + m : Nat) : Int) = (blo : Int) + m by omega] at hfu
    have HFU : Hid _ := hfu
    clear hfu
    go_upto_if 218 with (go_at_call 42; refine Calls.mono HFU.out ?_; rintro e w' ⟨X, Y, ok, rfl, hok, q, rfl⟩)
    have HOK : Hid _ := hok
    clear hok HFU
    cases ok
    · have hM3 := hM.drewN q
      go_wp2_with fail
      go_roundg (gk - 1)
      case measure => omega
      case rel => exact ⟨d + 1, F2, G2, rfl, by omega, by omega, by omega, ⟨by rw [show d + 1 - 1 = d by omega]; exact hA2.out.1, by rw [show d + 1 - 1 = d by omega]; exact hA3.out.1⟩, hM3⟩
    · have hM3 := hM.drewN q
      have hpt := HOK.out rfl
      have HPT : Hid _ := hpt
      clear hpt
      go_wp2_with fail
      go_ret2
      refine ⟨X - alo, Y - blo, ?_, ?_, ?_, F2, G2, hM3.rf.keep rfl, hM3.rk.keep rfl, hM3.O⟩
      · show Ending.returned (.tuple #[.int .i64 X, .int .i64 Y]) = _
        rw [show (alo : Int) + (X - alo) = X by omega, show (blo : Int) + (Y - blo) = Y by omega]
      · have h := HPT.out
        exact ⟨by omega, by omega, by omega, by omega, by omega, by omega⟩
      · intro h; omega
  · have hcd' : ¬ (cb : Int) ≤ d := hcd
    go_wp2_with fail
    go_roundg (gk - 1)
    case measure => omega
    case rel => exact ⟨d + 1, F2, G2, rfl, by omega, by omega, by omega, ⟨by rw [show d + 1 - 1 = d by omega]; exact hA2.out.1, by rw [show d + 1 - 1 = d by omega]; exact hA3.out.1⟩, hM⟩

end Go.Proofs.Qxb6600671a
