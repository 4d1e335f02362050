/- zzSortStrings sorts: the walk. -/
import Derived.Test.Qxb6600815aSortMem
namespace Go.Proofs.Qxb6600815a
open Go.RowKit

theorem strs_upd (B : Nat → ByteArray) (k : Nat) (v : ByteArray) (j : Nat) : upd (fun i => Value.string (B i)) k (.string v) j = .string (updS B k v j) := by
  by_cases h : j = k
  · subst h; simp [upd, updS]
  · simp [upd, updS, h]

structure SMem (w wr : World) (ba bb n : Nat) (A B : Nat → ByteArray) : Prop where
  ra : Arr wr ba n 9 (fun i => .string (A i))
  rb : Arr wr bb n 9 (fun i => .string (B i))
  ne : ba ≠ bb
  la : w.heap.size ≤ ba
  lb : w.heap.size ≤ bb
  o : Only [] w wr

theorem SMem.set {w wr : World} {ba bb n : Nat} {A B : Nat → ByteArray} (h : SMem w wr ba bb n A B) (k : Nat) (v : ByteArray) : SMem w (wr.setCell ⟨bb, k, none⟩ (.string v)) ba bb n A (updS B k v) :=
  ⟨h.ra.setOther h.ne k _, (h.rb.set k _).congr (fun j _ => strs_upd B k v j), h.ne, h.la, h.lb, h.o.setCell (p := ⟨bb, k, none⟩) (fun hh => by have := h.lb; simp at hh; omega) _⟩

theorem SMem.drewN {w wr : World} {ba bb n : Nat} {A B : Nat → ByteArray} (h : SMem w wr ba bb n A B) (q : Nat) : SMem w (wr.drewN q) ba bb n A B :=
  ⟨h.ra.keep rfl, h.rb.keep rfl, h.ne, h.la, h.lb, h.o.drewN q⟩

theorem SMem.swap {w wr : World} {ba bb n : Nat} {A B : Nat → ByteArray} (h : SMem w wr ba bb n A B) : SMem w wr bb ba n B A := ⟨h.rb, h.ra, Ne.symm h.ne, h.lb, h.la, h.o⟩

set_option maxRecDepth 100000 in
set_option maxHeartbeats 4000000 in
theorem sort_any (ao : Option Addr) (n c : Nat) (f : Nat → ByteArray) (w : World) (hn : n ≤ 65536) (hr : Reads w ao n (fun i => .string (f i))) :
    Calls Try.prog 10 #[.slice ao n c] w fun e w' => ∃ (b : Nat) (g : Nat → ByteArray), e = .returned (.slice (some ⟨b, 0, none⟩) n n) ∧ w.heap.size ≤ b ∧ Arr w' b n 9 (fun i => .string (g i)) ∧ Up g 0 n ∧ Same g f n ∧ Only [] w w' := by
  obtain ⟨w1, hcp, hA1, ho1, hs1⟩ := run_copyStrs w ao n c f hr
  have hmk1 := run_makeStrs w n (by omega)
  have hmk2 := run_makeStrs w1 n (by omega)
  have HM : Hid (SMem w (w1.alloc (.cells (madeCells #[.string ByteArray.empty] n) 9)) w.heap.size (w.heap.size + 1) n f (fun _ => ByteArray.empty)) :=
    ⟨hA1.alloc _, by rw [← hs1]; exact Arr.made w1 9 _ _ _ (size_madeCells _ _) (fun j hj => madeCells_at _ _ _ hj), by omega, by omega, by omega, ho1.alloc _⟩
  clear hr hA1 ho1
  go_enter Try.func10, Try.ntmps10
  go_upto_block 0 with fail
  clear hmk1 hmk2 hcp
  go_cut [4, 5, 6] from 7 to 95 (fun av bv wv wx => ∃ (b : Nat) (g : Nat → ByteArray), av = .slice (some ⟨b, 0, none⟩) n n ∧ w.heap.size ≤ b ∧ Arr wx b n 9 (fun i => .string (g i)) ∧ Aside (Up g 0 n ∧ Same g f n) ∧ Only [] w wx)
  case first =>
    go_wp2_with fail
    go_loopg [4, 5, 6] (n - 1) (fun gk av bv wv wr => ∃ (ba bb wd : Nat) (A B : Nat → ByteArray), av = .slice (some ⟨ba, 0, none⟩) n n ∧ bv = .slice (some ⟨bb, 0, none⟩) n n ∧ wv = .int .i64 wd ∧ n - wd = gk ∧ 1 ≤ wd ∧ wd ≤ 131072 ∧ Aside (Runs A n wd ∧ Same A f n) ∧ SMem w wr ba bb n A B)
    case atStart => exact ⟨w.heap.size, w.heap.size + 1, 1, f, fun _ => ByteArray.empty, rfl, rfl, rfl, rfl, by omega, by omega, ⟨Runs.one f n, Same.refl f n⟩, HM.out⟩
    case round =>
      clear HM
      obtain ⟨ba, bb, wd, A, B, rfl, rfl, rfl, hgk, hw1, hw2, hRS, hM⟩ := hrel
      by_cases hwn : wd < n
      · go_upto_block 2 with fail
        go_cut [7, 8, 9, 10, 11, 12] from 27 to 93 (fun lv _mv _hv _iv _jv _kv wx => ∃ B1 : Nat → ByteArray, Aside (Runs B1 n (2 * wd) ∧ Same B1 A n) ∧ SMem w wx ba bb n A B1)
        case first =>
          go_wp2_with fail
          go_loopg [7] n (fun gk lv wr => ∃ (q X : Nat) (B1 : Nat → ByteArray), lv = .int .i64 X ∧ n - X = gk ∧ X ≤ 400000 ∧ Aside (q * (2 * wd) = X ∧ Pass A B1 n wd q) ∧ SMem w wr ba bb n A B1)
          case atStart => exact ⟨0, 0, B, rfl, by omega, by omega, ⟨by omega, Pass.start A B n wd⟩, hM⟩
          case round =>
            clear hM
            obtain ⟨q, X, B1, rfl, hgX, hX4, hP, hM⟩ := hrel
            by_cases hXn : X < n
            · obtain ⟨mid, hmid⟩ : ∃ mid, mid = min (X + wd) n := ⟨_, rfl⟩
              obtain ⟨hi, hhi⟩ : ∃ hi, hi = min (X + 2 * wd) n := ⟨_, rfl⟩
              have HX : Hid (mid = min (X + wd) n ∧ hi = min (X + 2 * wd) n) := ⟨hmid, hhi⟩
              have m1 : X ≤ mid := by omega
              have m2 : mid ≤ hi := by omega
              have m3 : hi ≤ n := by omega
              have HU : Hid (Up A X mid ∧ Up A mid hi) := by
                have := hRS.out.1.halves q (mid := mid) (hi := hi) (by rw [hP.out.1]; exact hmid) (by rw [hP.out.1]; exact hhi)
                rw [hP.out.1] at this
                exact this
              obtain ⟨w5, hw5⟩ : ∃ w5 : World, w5 = wr := ⟨_, rfl⟩
              subst hw5
              go_upto_if 39 with fail
              go_cut [8] from 34 to 40 (fun mv wx => wx = w5 ∧ mv = .int .i64 mid)
              case first =>
                by_cases h1 : n < X + wd
                · obtain rfl : mid = n := by omega
                  clear hmid hhi
                  go_wp2_with fail
                  go_meet
                  case rel => exact ⟨rfl, rfl⟩
                · have e1 : ((X : Int) + wd) = mid := by omega
                  clear hmid hhi
                  go_wp2_with fail
                  go_meet
                  case rel => exact ⟨rfl, by rw [← e1]⟩
              case rest =>
                obtain ⟨hw, rfl⟩ := hcut
                replace hw := hw.symm
                subst hw
                go_upto_if 47 with fail
                go_cut [9] from 41 to 48 (fun hv wx => wx = w5 ∧ hv = .int .i64 hi)
                case first =>
                  by_cases h1 : n < X + 2 * wd
                  · obtain rfl : hi = n := by omega
                    clear hmid hhi
                    go_wp2_with fail
                    go_meet
                    case rel => exact ⟨rfl, rfl⟩
                  · have e1 : ((X : Int) + 2 * wd) = hi := by omega
                    clear hmid hhi
                    go_wp2_with fail
                    go_meet
                    case rel => exact ⟨rfl, by rw [← e1]⟩
                case rest =>
                  obtain ⟨hw, rfl⟩ := hcut
                  replace hw := hw.symm
                  subst hw
                  clear hmid hhi
                  go_upto_block 4 with fail
                  go_wp2_with fail
                  go_loopg [10, 11, 12] (hi - X) (fun gk iv jv kv wr => ∃ (i j k : Nat) (B2 : Nat → ByteArray), k + gk = hi ∧ iv = .int .i64 i ∧ jv = .int .i64 j ∧ kv = .int .i64 k ∧ X ≤ i ∧ i ≤ mid ∧ mid ≤ j ∧ j ≤ hi ∧ k + mid = i + j ∧ Aside (Mrg A B2 X mid hi i j k ∧ ∀ t, t < X → B2 t = B1 t) ∧ SMem w wr ba bb n A B2)
                  case atStart => exact ⟨X, mid, X, B1, by omega, rfl, rfl, rfl, by omega, by omega, by omega, by omega, by omega, ⟨Mrg.start A B1 m1 m2, fun t _ => rfl⟩, hM⟩
                  case round =>
                    clear hM
                    obtain ⟨i, j, k, B2, hk, rfl, rfl, rfl, r1, r2, r3, r4, r5, hQ, hM2⟩ := hrel
                    by_cases hkh : k < hi
                    · have hki : (k : Int) < (hi : Int) := by omega
                      have hkn : (k : Int) < (n : Int) := by omega
                      have cb := hM2.rb.cell (j := k) (by omega)
                      have fb := hM2.rb.frozen k
                      by_cases hj : j < hi
                      · have g1 : decide ((hi : Int) ≤ (j : Int)) = false := decide_eq_false (by omega)
                        have g1' : ¬ hi ≤ j := by omega
                        have hjn : (j : Int) < (n : Int) := by omega
                        have cj := hM2.ra.cell (j := j) (by omega)
                        by_cases hi' : i < mid
                        · have g2 : (i : Int) < (mid : Int) := by omega
                          have hin : (i : Int) < (n : Int) := by omega
                          have ci := hM2.ra.cell (j := i) (by omega)
                          cases hle : le (A i) (A j)
                          · have hb : (Op.bytesLess (A i).toList (A j).toList || (A i).toList == (A j).toList) = false := hle
                            have HQ : Aside (Mrg A (updS B2 k (A j)) X mid hi (i) (j + 1) (k + 1) ∧ ∀ t, t < X → updS B2 k (A j) t = B1 t) := ⟨hQ.out.1.right HU.out.1 HU.out.2 hj (.inr hle), fun t ht => by rw [updS_other _ _ (by omega)]; exact hQ.out.2 t ht⟩
                            have HM' : Hid (∀ q, SMem w ((wr.drewN q).setCell ⟨bb, k, none⟩ (.string (A j))) ba bb n A (updS B2 k (A j))) := fun q => (hM2.drewN q).set k (A j)
                            clear hM2 hQ hle
                            go_wp2_with fail
                            go_quiet (fail)
                            go_wp2_with fail
                            go_roundg (gk - 1)
                            case measure => omega
                            case rel => exact ⟨i, j + 1, k + 1, updS B2 k (A j), by omega, rfl, by go_num, by go_num, by omega, by omega, by omega, by omega, by omega, HQ, HM'.out _⟩
                          · have hb : (Op.bytesLess (A i).toList (A j).toList || (A i).toList == (A j).toList) = true := hle
                            have HQ : Aside (Mrg A (updS B2 k (A i)) X mid hi (i + 1) (j) (k + 1) ∧ ∀ t, t < X → updS B2 k (A i) t = B1 t) := ⟨hQ.out.1.left HU.out.1 HU.out.2 hi' (.inr hle), fun t ht => by rw [updS_other _ _ (by omega)]; exact hQ.out.2 t ht⟩
                            have HM' : Hid (∀ q, SMem w ((wr.drewN q).setCell ⟨bb, k, none⟩ (.string (A i))) ba bb n A (updS B2 k (A i))) := fun q => (hM2.drewN q).set k (A i)
                            clear hM2 hQ hle
                            go_wp2_with fail
                            go_quiet (fail)
                            go_wp2_with fail
                            go_roundg (gk - 1)
                            case measure => omega
                            case rel => exact ⟨i + 1, j, k + 1, updS B2 k (A i), by omega, by go_num, rfl, by go_num, by omega, by omega, by omega, by omega, by omega, HQ, HM'.out _⟩
                        · have g2 : decide ((i : Int) < (mid : Int)) = false := decide_eq_false (by omega)
                          have g2' : ¬ i < mid := by omega
                          have HQ : Aside (Mrg A (updS B2 k (A j)) X mid hi (i) (j + 1) (k + 1) ∧ ∀ t, t < X → updS B2 k (A j) t = B1 t) := ⟨hQ.out.1.right HU.out.1 HU.out.2 hj (.inl (by omega)), fun t ht => by rw [updS_other _ _ (by omega)]; exact hQ.out.2 t ht⟩
                          have HM' : Hid (∀ q, SMem w ((wr.drewN q).setCell ⟨bb, k, none⟩ (.string (A j))) ba bb n A (updS B2 k (A j))) := fun q => (hM2.drewN q).set k (A j)
                          clear hM2 hQ
                          go_wp2_with fail
                          go_quiet (fail)
                          go_wp2_with fail
                          go_roundg (gk - 1)
                          case measure => omega
                          case rel => exact ⟨i, j + 1, k + 1, updS B2 k (A j), by omega, rfl, by go_num, by go_num, by omega, by omega, by omega, by omega, by omega, HQ, HM'.out _⟩
                      · have g1 : (hi : Int) ≤ (j : Int) := by omega
                        have hi' : i < mid := by omega
                        have hin : (i : Int) < (n : Int) := by omega
                        have ci := hM2.ra.cell (j := i) (by omega)
                        have HQ : Aside (Mrg A (updS B2 k (A i)) X mid hi (i + 1) (j) (k + 1) ∧ ∀ t, t < X → updS B2 k (A i) t = B1 t) := ⟨hQ.out.1.left HU.out.1 HU.out.2 hi' (.inl (by omega)), fun t ht => by rw [updS_other _ _ (by omega)]; exact hQ.out.2 t ht⟩
                        have HM' : Hid (∀ q, SMem w ((wr.drewN q).setCell ⟨bb, k, none⟩ (.string (A i))) ba bb n A (updS B2 k (A i))) := fun q => (hM2.drewN q).set k (A i)
                        clear hM2 hQ
                        go_wp2_with fail
                        go_quiet (fail)
                        go_wp2_with fail
                        go_roundg (gk - 1)
                        case measure => omega
                        case rel => exact ⟨i + 1, j, k + 1, updS B2 k (A i), by omega, by go_num, rfl, by go_num, by omega, by omega, by omega, by omega, by omega, HQ, HM'.out _⟩
                    · have hkk : k = hi := by omega
                      have HP : Aside (Pass A B2 n wd (q + 1)) := by
                        obtain ⟨p1, p2⟩ := hP.out
                        subst p1
                        refine p2.step hXn HX.out.1 HX.out.2 (i := i) (j := j) ?_ hQ.out.2
                        have := hQ.out.1
                        rw [hkk] at this
                        exact this
                      have hkd : ¬ (k : Int) < (hi : Int) := by omega
                      have HX2 : Aside ((q + 1) * (2 * wd) = X + 2 * wd ∧ Pass A B2 n wd (q + 1)) := ⟨by rw [Nat.add_mul, hP.out.1]; omega, HP.out⟩
                      clear hkk HP hP hQ
                      go_wp2_with fail
                      go_roundg (n - (X + 2 * wd))
                      case measure => omega
                      case rel => exact ⟨q + 1, X + 2 * wd, B2, by go_num, rfl, by omega, HX2, hM2⟩
            · have HD : Aside (Runs B1 n (2 * wd) ∧ Same B1 A n) := hP.out.2.done (by rw [hP.out.1]; omega)
              go_wp2_with fail
              go_meet
              case rel => exact ⟨B1, HD, hM⟩
        case rest =>
          obtain ⟨B1, HD, hM1⟩ := hcut
          have HN : Aside (Runs B1 n (wd * 2) ∧ Same B1 f n) := ⟨by rw [Nat.mul_comm]; exact HD.out.1, HD.out.2.trans hRS.out.2⟩
          clear HD hRS hM
          go_wp2_with fail
          go_roundg (n - wd * 2)
          case measure => omega
          case rel => exact ⟨bb, ba, wd * 2, B1, A, rfl, rfl, by go_num, rfl, by omega, by omega, HN, hM1.swap⟩
      · have HN : Aside (Up A 0 n ∧ Same A f n) := ⟨hRS.out.1.all (by omega), hRS.out.2⟩
        go_wp2_with fail
        go_meet
        case rel => exact ⟨ba, A, rfl, hM.la, hM.ra, HN, hM.o⟩
  case rest =>
    obtain ⟨b, g, rfl, hb, hA, HN, ho⟩ := hcut
    go_wp2_with fail
    go_ret
    exact ⟨b, g, rfl, hb, hA, HN.out.1, HN.out.2, ho⟩

end Go.Proofs.Qxb6600815a
