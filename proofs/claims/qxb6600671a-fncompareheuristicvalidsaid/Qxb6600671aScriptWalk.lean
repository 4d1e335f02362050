/- FnCompareMinimalScript and FnCompareHeuristicValid: the walks. -/
import Derived.Test.Qxb6600671aKeptAgree
namespace Go.Proofs.Qxb6600671a
open Go.RowKit

/-- What the marks of 'compare' say in numbers. -/
theorem good_counts {a b : Nat → Int} {del ins : Nat → Bool} {opt : Prop} {N M : Nat} (h : Good a b del ins opt 0 N 0 M) :
    kept a del 0 N = kept b ins 0 M ∧ ∃ K : Nat, cntT del N + K = N ∧ cntT ins M + K = M ∧ K ≤ lcs a b N M ∧ (opt → K = lcs a b N M) := by
  obtain ⟨h1, h2⟩ := h
  simp only [Nat.sub_zero] at h1 h2
  refine ⟨h1, (kept a del 0 N).length, ?_, ?_, ?_, ?_⟩
  · have := kept_count a del (cntT del) N rfl (fun k => rfl)
    omega
  · have := kept_count b ins (cntT ins) M rfl (fun k => rfl)
    rw [h1]
    omega
  · have := lcs_max a b N M (kept a del 0 N).reverse (kept_sub a del N) (by rw [h1]; exact kept_sub b ins M)
    simpa using this
  · intro ho
    have := h2 ho
    unfold Lx at this
    simpa using this

set_option maxHeartbeats 400000 in
theorem bytes11 (a0 a1 : Option Addr) (l0 c0 l1 c1 : Nat) (w : World) (h0 : l0 ≤ 9223372036854775807) (h1 : l1 ≤ 9223372036854775807) :
    Calls Try.prog 11 #[.slice a0 l0 c0, .slice a1 l1 c1] w fun e w' => ∃ r : Bool, e = .returned (.bool r) ∧ w' = w := by
  go_enter Try.func11, Try.ntmps11
  go_wp2
  all_goals
    go_ret
    exact ⟨_, rfl, rfl⟩

set_option maxHeartbeats 400000 in
theorem bytes17 (a0 a1 : Option Addr) (l0 c0 l1 c1 : Nat) (z : Int) (w : World) (h0 : l0 ≤ 9223372036854775807) (h1 : l1 ≤ 9223372036854775807) :
    Calls Try.prog 17 #[.slice a0 l0 c0, .slice a1 l1 c1, .int .i64 z] w fun e w' => ∃ r : Bool, e = .returned (.bool r) ∧ w' = w := by
  go_enter Try.func17, Try.ntmps17
  go_wp2
  all_goals
    go_ret
    exact ⟨_, rfl, rfl⟩

theorem clone_place {w w1 w2 : World} {ao : Option Addr} {n : Nat} {f : Nat → Int} (h : n = 0 ∨ ao = some ⟨w.heap.size, 0, none⟩ ∧ Arr w1 w.heap.size n 3 (fun i => .int .i64 (f i))) (ho : Only [] w1 w2) :
    ∃ ba : Nat, (∀ t, t < 5 → ba ≠ w2.heap.size + t) ∧ (0 < n → ao = some ⟨ba, 0, none⟩ ∧ Arr w2 ba n 3 (fun i => .int .i64 (f i))) := by
  rcases h with h | ⟨h, ha⟩
  · exact ⟨w2.heap.size + 10, fun t ht => by omega, fun hh => by omega⟩
  · have h2 := ho.arr ha (by simp)
    exact ⟨_, fun t ht => by have := h2.lt; omega, fun _ => ⟨h, h2⟩⟩

theorem reads_opt {w : World} {ao : Option Addr} {ba n : Nat} {f : Nat → Value} (h : 0 < n → ao = some ⟨ba, 0, none⟩ ∧ Arr w ba n 3 f) : Reads w ao n f := by
  rcases Nat.eq_zero_or_pos n with h0 | h0
  · exact .inl h0
  · obtain ⟨rfl, ha⟩ := h h0
    exact Reads.ofArr ha

set_option maxRecDepth 100000 in
set_option maxHeartbeats 2000000 in
theorem minimal_in (a0 a1 : Option Addr) (l0 c0 l1 c1 : Nat) (f g : Nat → Int) (w : World) (h0 : l0 ≤ 1024) (h1 : l1 ≤ 1024)
    (hn0 : a0 = none → l0 = 0 ∧ c0 = 0) (hn1 : a1 = none → l1 = 0 ∧ c1 = 0) (hr0 : Reads w a0 l0 (fun i => .int .i64 (f i))) (hr1 : Reads w a1 l1 (fun i => .int .i64 (g i))) :
    Calls Try.prog 3 #[.slice a0 l0 c0, .slice a1 l1 c1] w fun e w' => e = .returned (.bool true) ∧ Only [] w w' := by
  have R0 : Hid _ := hr0
  have R1 : Hid _ := hr1
  have N0 : Hid _ := hn0
  have N1 : Hid _ := hn1
  clear hr0 hr1 hn0 hn1
  have hbt := bytes11 a0 a1 l0 c0 l1 c1 w (by omega) (by omega)
  go_enter Try.func3, Try.ntmps3
  go_wp2_with fail
  refine hbt.mono ?_
  rintro e w' ⟨r, rfl, rfl⟩
  clear hbt
  cases r
  · go_wp2_with fail
    go_ret
    exact ⟨rfl, Only.refl _ _⟩
  · go_wp2_with fail
    refine (cloneInts_any a0 l0 c0 f w' (by omega) N0.out R0.out).mono ?_
    rintro e w1 ⟨ao, rfl, h1', ho1⟩
    go_wp2_with fail
    refine (cloneInts_any a1 l1 c1 g w1 (by omega) N1.out (Reads.only R1.out ho1)).mono ?_
    rintro e w2 ⟨bo, rfl, h2', ho2⟩
    obtain ⟨ba, hba, ra⟩ := clone_place h1' ho2
    obtain ⟨bb, hbb, rb⟩ := clone_place h2' (Only.refl [] w2)
    have hrs := runCompare_any ao bo ba bb l0 l1 (l0 + l1 + 2) f g w2 (by omega) (by omega) (by omega) (by omega) ra rb hba hbb
    rw [show ((l0 + l1 + 2 : Nat) : Int) = (l0 : Int) + l1 + 2 by omega] at hrs
    have HRS : Hid _ := hrs
    have RA : Hid _ := ra
    have RB : Hid _ := rb
    have ho : Only [] w' w2 := ho1.trans ho2
    clear hrs h1' h2' ho1 ho2 R0 R1 N0 N1 ra rb hba hbb
    go_wp2_with fail
    refine Calls.mono HRS.out ?_
    rintro e w3 ⟨rfl, del, ins, rd, ri, hg, ho3⟩
    obtain ⟨hk, K, k1, k2, k3, k4⟩ := good_counts hg
    have ho' := ho.trans ho3
    have ra3 : 0 < l0 → ao = some ⟨ba, 0, none⟩ ∧ Arr w3 ba l0 3 (fun i => .int .i64 (f i)) := fun p => ⟨(RA.out p).1, ho3.arr (RA.out p).2 (by simp)⟩
    have rb3 : 0 < l1 → bo = some ⟨bb, 0, none⟩ ∧ Arr w3 bb l1 3 (fun i => .int .i64 (g i)) := fun p => ⟨(RB.out p).1, ho3.arr (RB.out p).2 (by simp)⟩
    have HKA : Hid _ := keptAgree_any ao bo ba bb w2.heap.size (w2.heap.size + 1) l0 l1 f g del ins w3 (by omega) (by omega) ra3 rb3 rd ri hk
    have HC1 : Hid (∀ q, Calls Try.prog 15 #[.slice (some ⟨w2.heap.size, 0, none⟩) l0 l0] (w3.drewN q) fun e w' => e = .returned (.int .i64 (cntT del l0)) ∧ w' = w3.drewN q) := fun q => countTrue_any _ l0 l0 del _ (by omega) (Reads.ofArr (rd.keep rfl))
    have HC2 : Hid (∀ q, Calls Try.prog 15 #[.slice (some ⟨w2.heap.size + 1, 0, none⟩) l1 l1] (w3.drewN q) fun e w' => e = .returned (.int .i64 (cntT ins l1)) ∧ w' = w3.drewN q) := fun q => countTrue_any _ l1 l1 ins _ (by omega) (Reads.ofArr (ri.keep rfl))
    have HL : Hid (∀ q, Calls Try.prog 16 #[.slice ao l0 l0, .slice bo l1 l1] (w3.drewN q) fun e w' => e = .returned (.int .i64 (lcs f g l0 l1 : Int)) ∧ Only [] (w3.drewN q) w') := fun q =>
      lcsLen_any ao bo l0 l0 l1 l1 f g _ (by omega) (by omega) (Reads.only (reads_opt ra3) ((Only.refl _ _).drewN q)) (Reads.only (reads_opt rb3) ((Only.refl _ _).drewN q))
    have l1' := lcs_le_left f g l0 l1
    have l2' := lcs_le_right f g l0 l1
    have k4' := k4 (by omega)
    have HD : Hid (cntT del l0 + K = l0 ∧ cntT ins l1 + K = l1 ∧ K = lcs f g l0 l1) := ⟨k1, k2, k4'⟩
    have b1 : cntT del l0 ≤ 1024 := by omega
    have b2 : cntT ins l1 ≤ 1024 := by omega
    have b3 : lcs f g l0 l1 ≤ 1024 := by omega
    generalize hv1 : cntT del l0 = v1 at *
    generalize hv2 : cntT ins l1 = v2 at *
    generalize hv3 : lcs f g l0 l1 = v3 at *
    clear hv1 hv2 hv3 k1 k2 k3 k4 k4' l1' l2' HRS RA RB ra3 rb3 rd ri hk hg ho ho3
    go_wp2_with fail
    refine Calls.mono HKA.out ?_
    rintro e w4 ⟨rfl, q, rfl⟩
    go_wp2_with fail
    refine Calls.mono (HC1.out _) ?_
    rintro e w4 ⟨rfl, rfl⟩
    go_wp2_with fail
    refine Calls.mono (HC2.out _) ?_
    rintro e w4 ⟨rfl, rfl⟩
    go_wp2_with fail
    refine Calls.mono (HL.out _) ?_
    rintro e w4 ⟨rfl, ho4⟩
    go_wp2_with fail
    go_ret
    refine ⟨?_, (ho'.drewN q).trans ho4⟩
    have hs := HD.out
    have e1 : ((v1 : Int) + v2) = (l0 : Int) + l1 - 2 * v3 := by omega
    simp
    exact e1

set_option maxHeartbeats 2000000 in
/-- THE WALK: whatever comes in. -/
theorem minimal_any (a0 a1 : Option Addr) (l0 c0 l1 c1 : Nat) (f g : Nat → Int) (w : World) (hm0 : l0 ≤ maxLen) (hm1 : l1 ≤ maxLen)
    (hn0 : a0 = none → l0 = 0 ∧ c0 = 0) (hn1 : a1 = none → l1 = 0 ∧ c1 = 0) (hr0 : Reads w a0 l0 (fun i => .int .i64 (f i))) (hr1 : Reads w a1 l1 (fun i => .int .i64 (g i))) :
    Calls Try.prog 3 #[.slice a0 l0 c0, .slice a1 l1 c1] w fun e w' => e = .returned (.bool true) ∧ Only [] w w' := by
  unfold maxLen at hm0 hm1
  by_cases b0 : l0 ≤ 1024
  · by_cases b1 : l1 ≤ 1024
    · exact minimal_in a0 a1 l0 c0 l1 c1 f g w b0 b1 hn0 hn1 hr0 hr1
    · have hbt := bytes11 a0 a1 l0 c0 l1 c1 w (by omega) (by omega)
      clear hr0 hr1 hn0 hn1
      go_enter Try.func3, Try.ntmps3
      go_wp2_with fail
      refine hbt.mono ?_
      rintro e w' ⟨r, rfl, rfl⟩
      cases r <;> (go_wp2_with fail; go_ret; exact ⟨rfl, Only.refl _ _⟩)
  · have hbt := bytes11 a0 a1 l0 c0 l1 c1 w (by omega) (by omega)
    clear hr0 hr1 hn0 hn1
    go_enter Try.func3, Try.ntmps3
    go_wp2_with fail
    refine hbt.mono ?_
    rintro e w' ⟨r, rfl, rfl⟩
    cases r <;> (go_wp2_with fail; go_ret; exact ⟨rfl, Only.refl _ _⟩)

set_option maxRecDepth 100000 in
set_option maxHeartbeats 2000000 in
theorem heuristic_in (a0 a1 : Option Addr) (l0 c0 l1 c1 : Nat) (f g : Nat → Int) (w : World) (h0 : l0 ≤ 1024) (h1 : l1 ≤ 1024) (cb : Nat) (hc1 : 1 ≤ cb) (hc2 : cb ≤ 65536)
    (hn0 : a0 = none → l0 = 0 ∧ c0 = 0) (hn1 : a1 = none → l1 = 0 ∧ c1 = 0) (hr0 : Reads w a0 l0 (fun i => .int .i64 (f i))) (hr1 : Reads w a1 l1 (fun i => .int .i64 (g i))) :
    Calls Try.prog 4 #[.slice a0 l0 c0, .slice a1 l1 c1, .int .i64 (cb : Int)] w fun e w' => e = .returned (.bool true) ∧ Only [] w w' := by
  have R0 : Hid _ := hr0
  have R1 : Hid _ := hr1
  have N0 : Hid _ := hn0
  have N1 : Hid _ := hn1
  clear hr0 hr1 hn0 hn1
  have hbt := bytes17 a0 a1 l0 c0 l1 c1 (cb : Int) w (by omega) (by omega)
  go_enter Try.func4, Try.ntmps4
  go_wp2_with fail
  refine hbt.mono ?_
  rintro e w' ⟨r, rfl, rfl⟩
  clear hbt
  cases r
  · go_wp2_with fail
    go_ret
    exact ⟨rfl, Only.refl _ _⟩
  · go_wp2_with fail
    refine (cloneInts_any a0 l0 c0 f w' (by omega) N0.out R0.out).mono ?_
    rintro e w1 ⟨ao, rfl, h1', ho1⟩
    go_wp2_with fail
    refine (cloneInts_any a1 l1 c1 g w1 (by omega) N1.out (Reads.only R1.out ho1)).mono ?_
    rintro e w2 ⟨bo, rfl, h2', ho2⟩
    obtain ⟨ba, hba, ra⟩ := clone_place h1' ho2
    obtain ⟨bb, hbb, rb⟩ := clone_place h2' (Only.refl [] w2)
    have hrs := runCompare_any ao bo ba bb l0 l1 cb f g w2 (by omega) (by omega) (by omega) (by omega) ra rb hba hbb
    have HRS : Hid _ := hrs
    have RA : Hid _ := ra
    have RB : Hid _ := rb
    have ho : Only [] w' w2 := ho1.trans ho2
    clear hrs h1' h2' ho1 ho2 R0 R1 N0 N1 ra rb hba hbb
    go_wp2_with fail
    refine Calls.mono HRS.out ?_
    rintro e w3 ⟨rfl, del, ins, rd, ri, hg, ho3⟩
    obtain ⟨hk, K, k1, k2, k3, k4⟩ := good_counts hg
    have ho' := ho.trans ho3
    have ra3 : 0 < l0 → ao = some ⟨ba, 0, none⟩ ∧ Arr w3 ba l0 3 (fun i => .int .i64 (f i)) := fun p => ⟨(RA.out p).1, ho3.arr (RA.out p).2 (by simp)⟩
    have rb3 : 0 < l1 → bo = some ⟨bb, 0, none⟩ ∧ Arr w3 bb l1 3 (fun i => .int .i64 (g i)) := fun p => ⟨(RB.out p).1, ho3.arr (RB.out p).2 (by simp)⟩
    have HKA : Hid _ := keptAgree_any ao bo ba bb w2.heap.size (w2.heap.size + 1) l0 l1 f g del ins w3 (by omega) (by omega) ra3 rb3 rd ri hk
    have HC1 : Hid (∀ q, Calls Try.prog 15 #[.slice (some ⟨w2.heap.size, 0, none⟩) l0 l0] (w3.drewN q) fun e w' => e = .returned (.int .i64 (cntT del l0)) ∧ w' = w3.drewN q) := fun q => countTrue_any _ l0 l0 del _ (by omega) (Reads.ofArr (rd.keep rfl))
    have HC2 : Hid (∀ q, Calls Try.prog 15 #[.slice (some ⟨w2.heap.size + 1, 0, none⟩) l1 l1] (w3.drewN q) fun e w' => e = .returned (.int .i64 (cntT ins l1)) ∧ w' = w3.drewN q) := fun q => countTrue_any _ l1 l1 ins _ (by omega) (Reads.ofArr (ri.keep rfl))
    have HL : Hid (∀ q, Calls Try.prog 16 #[.slice ao l0 l0, .slice bo l1 l1] (w3.drewN q) fun e w' => e = .returned (.int .i64 (lcs f g l0 l1 : Int)) ∧ Only [] (w3.drewN q) w') := fun q =>
      lcsLen_any ao bo l0 l0 l1 l1 f g _ (by omega) (by omega) (Reads.only (reads_opt ra3) ((Only.refl _ _).drewN q)) (Reads.only (reads_opt rb3) ((Only.refl _ _).drewN q))
    have l1' := lcs_le_left f g l0 l1
    have l2' := lcs_le_right f g l0 l1
    have HD : Hid (cntT del l0 + K = l0 ∧ cntT ins l1 + K = l1 ∧ K ≤ lcs f g l0 l1 ∧ (l0 + l1 ≤ cb → K = lcs f g l0 l1)) := ⟨k1, k2, k3, k4⟩
    have b1 : cntT del l0 ≤ 1024 := by omega
    have b2 : cntT ins l1 ≤ 1024 := by omega
    have b3 : lcs f g l0 l1 ≤ 1024 := by omega
    generalize hv1 : cntT del l0 = v1 at *
    generalize hv2 : cntT ins l1 = v2 at *
    generalize hv3 : lcs f g l0 l1 = v3 at *
    clear hv1 hv2 hv3 k1 k2 k3 k4 l1' l2' HRS RA RB ra3 rb3 rd ri hk hg ho ho3
    go_wp2_with fail
    refine Calls.mono HKA.out ?_
    rintro e w4 ⟨rfl, q, rfl⟩
    go_wp2_with fail
    refine Calls.mono (HC1.out _) ?_
    rintro e w4 ⟨rfl, rfl⟩
    go_wp2_with fail
    refine Calls.mono (HC2.out _) ?_
    rintro e w4 ⟨rfl, rfl⟩
    go_wp2_with fail
    refine Calls.mono (HL.out _) ?_
    rintro e w4 ⟨rfl, ho4⟩
    obtain ⟨s1, s2, s3, s4⟩ := HD.out
    have nlt : decide ((v1 : Int) + v2 < (l0 : Int) + l1 - 2 * v3) = false := decide_eq_false (by omega)
    by_cases hcb : l0 + l1 ≤ cb
    · have e1 : (((v1 : Int) + v2) != ((l0 : Int) + l1 - 2 * v3)) = false := by
        have := s4 hcb
        simp
        omega
      clear s1 s2 s3 s4 HD HL HC1 HC2 HKA
      go_wp2_with fail
      go_ret
      exact ⟨rfl, (ho'.drewN q).trans ho4⟩
    · have e1 : decide ((l0 : Int) + l1 ≤ (cb : Int)) = false := decide_eq_false (by omega)
      clear s1 s2 s3 s4 HD HL HC1 HC2 HKA
      go_wp2_with fail
      go_ret
      exact ⟨rfl, (ho'.drewN q).trans ho4⟩

set_option maxHeartbeats 2000000 in
/-- THE WALK: whatever comes in. -/
theorem heuristic_any (a0 a1 : Option Addr) (l0 c0 l1 c1 : Nat) (z : Int) (f g : Nat → Int) (w : World) (hm0 : l0 ≤ maxLen) (hm1 : l1 ≤ maxLen)
    (hn0 : a0 = none → l0 = 0 ∧ c0 = 0) (hn1 : a1 = none → l1 = 0 ∧ c1 = 0) (hr0 : Reads w a0 l0 (fun i => .int .i64 (f i))) (hr1 : Reads w a1 l1 (fun i => .int .i64 (g i))) :
    Calls Try.prog 4 #[.slice a0 l0 c0, .slice a1 l1 c1, .int .i64 z] w fun e w' => e = .returned (.bool true) ∧ Only [] w w' := by
  unfold maxLen at hm0 hm1
  have hbt := bytes17 a0 a1 l0 c0 l1 c1 z w (by omega) (by omega)
  by_cases hin : l0 ≤ 1024 ∧ l1 ≤ 1024 ∧ 1 ≤ z ∧ z ≤ 65536
  · obtain ⟨b0, b1, z1, z2⟩ := hin
    obtain ⟨cb, rfl⟩ := Int.eq_ofNat_of_zero_le (show (0 : Int) ≤ z by omega)
    exact heuristic_in a0 a1 l0 c0 l1 c1 f g w b0 b1 cb (by omega) (by omega) hn0 hn1 hr0 hr1
  · clear hr0 hr1 hn0 hn1
    by_cases b0 : l0 ≤ 1024
    · by_cases b1 : l1 ≤ 1024
      · by_cases z1 : 1 ≤ z
        · have z2 : 65536 < z := by omega
          clear hin
          go_enter Try.func4, Try.ntmps4
          go_wp2_with fail
          refine hbt.mono ?_
          rintro e w' ⟨r, rfl, rfl⟩
          cases r <;> (go_wp2_with fail; go_ret; exact ⟨rfl, Only.refl _ _⟩)
        · have z2 : z < 1 := by omega
          clear hin z1
          go_enter Try.func4, Try.ntmps4
          go_wp2_with fail
          refine hbt.mono ?_
          rintro e w' ⟨r, rfl, rfl⟩
          cases r <;> (go_wp2_with fail; go_ret; exact ⟨rfl, Only.refl _ _⟩)
      · clear hin
        go_enter Try.func4, Try.ntmps4
        go_wp2_with fail
        refine hbt.mono ?_
        rintro e w' ⟨r, rfl, rfl⟩
        cases r <;> (go_wp2_with fail; go_ret; exact ⟨rfl, Only.refl _ _⟩)
    · clear hin
      go_enter Try.func4, Try.ntmps4
      go_wp2_with fail
      refine hbt.mono ?_
      rintro e w' ⟨r, rfl, rfl⟩
      cases r <;> (go_wp2_with fail; go_ret; exact ⟨rfl, Only.refl _ _⟩)

end Go.Proofs.Qxb6600671a
