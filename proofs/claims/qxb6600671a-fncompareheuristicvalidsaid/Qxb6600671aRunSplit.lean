/- The roads to 'split'. -/
import Derived.Test.Qxb6600671aSplit
import Derived.BigQuiet
namespace Go.Proofs.Qxb6600671a
open Go.RowKit

set_option maxRecDepth 100000 in
set_option maxHeartbeats 1000000 in
theorem premise_any (a0 a1 : Option Addr) (l0 c0 l1 c1 : Nat) (f g : Nat → Int) (w : World) (h0 : l0 ≤ 1048576) (h1 : l1 ≤ 1048576) (hr0 : Reads w a0 l0 (fun i => .int .i64 (f i))) (hr1 : Reads w a1 l1 (fun i => .int .i64 (g i))) :
    Calls Try.prog 20 #[.slice a0 l0 c0, .slice a1 l1 c1] w fun e w' => ∃ r : Bool, e = .returned (.bool r) ∧ (∃ q, w' = w.drewN q) ∧ Aside (r = true → 1 ≤ l0 ∧ 1 ≤ l1 ∧ f 0 ≠ g 0 ∧ f (l0 - 1) ≠ g (l1 - 1)) := by
  by_cases p0 : 1 ≤ l0
  · by_cases p1 : 1 ≤ l1
    · rcases hr0 with hr0 | ⟨b0, o0, rfl, _, hc0⟩
      · omega
      rcases hr1 with hr1 | ⟨b1, o1, rfl, _, hc1⟩
      · omega
      have x0 := hc0 0 (by omega)
      have x1 := hc1 0 (by omega)
      have y0 := hc0 (l0 - 1) (by omega)
      have y1 := hc1 (l1 - 1) (by omega)
      simp only [Nat.add_zero] at x0 x1
      clear hc0 hc1
      have q0 : (1 : Int) ≤ (l0 : Int) := by omega
      have q1 : (1 : Int) ≤ (l1 : Int) := by omega
      have q2 : (0 : Int) < (l0 : Int) := by omega
      have q3 : (0 : Int) < (l1 : Int) := by omega
      by_cases e0 : f 0 = g 0
      · have b0 : (f 0 != g 0) = false := by simpa using e0
        clear e0
        go_enter Try.func20, Try.ntmps20
        go_wp2_with fail
        go_quiet (fail)
        go_wp2_with fail
        go_ret
        exact ⟨false, rfl, ⟨_, rfl⟩, (fun h => by cases h)⟩
      · have b0 : (f 0 != g 0) = true := by simpa using e0
        have E0 : Hid (¬ f 0 = g 0) := e0
        clear e0
        by_cases e1 : f (l0 - 1) = g (l1 - 1)
        · have b1 : (f (l0 - 1) != g (l1 - 1)) = false := by simpa using e1
          clear e1
          go_enter Try.func20, Try.ntmps20
          go_wp2_with fail
          go_quiet (fail)
          go_wp2_with fail
          go_ret
          exact ⟨false, rfl, ⟨_, rfl⟩, (fun h => by cases h)⟩
        · have b1 : (f (l0 - 1) != g (l1 - 1)) = true := by simpa using e1
          have E1 : Hid (¬ f (l0 - 1) = g (l1 - 1)) := e1
          clear e1
          go_enter Try.func20, Try.ntmps20
          go_wp2_with fail
          go_quiet (fail)
          go_wp2_with fail
          go_ret
          exact ⟨true, rfl, ⟨_, rfl⟩, (fun _ => ⟨p0, p1, E0.out, E1.out⟩)⟩
    · have d1 : decide ((1 : Int) ≤ (l1 : Int)) = false := decide_eq_false (by omega)
      have q0 : (1 : Int) ≤ (l0 : Int) := by omega
      clear hr0 hr1
      go_enter Try.func20, Try.ntmps20
      go_wp2_with fail
      go_quiet (fail)
      go_wp2_with fail
      go_ret
      exact ⟨false, rfl, ⟨_, rfl⟩, (fun h => by cases h)⟩
  · have d0 : decide ((1 : Int) ≤ (l0 : Int)) = false := decide_eq_false (by omega)
    clear hr0 hr1
    go_enter Try.func20, Try.ntmps20
    go_wp2_with fail
    go_quiet (fail)
    go_wp2_with fail
    go_ret
    exact ⟨false, rfl, ⟨_, rfl⟩, (fun h => by cases h)⟩

set_option maxRecDepth 100000 in
set_option maxHeartbeats 1000000 in
theorem zzSplit_any (ba bb bf bk N M off cb : Nat) (a b F0 G0 : Nat → Int) (w : World) (hN : N ≤ 1048576) (hM_ : M ≤ 1048576) (hn : 1 ≤ N) (hm : 1 ≤ M) (hoff : N + M + 2 ≤ off) (hoff2 : off ≤ 4194304) (hcb : 1 ≤ cb) (hcb2 : cb ≤ 4194304)
    (ra : Arr w ba N 3 (fun i => .int .i64 (a i))) (rb : Arr w bb M 3 (fun i => .int .i64 (b i))) (rf : Arr w bf (2 * off + 1) 3 (fun i => .int .i64 (F0 i))) (rk : Arr w bk (2 * off + 1) 3 (fun i => .int .i64 (G0 i)))
    (hfk : bf ≠ bk) (haf : ba ≠ bf) (hak : ba ≠ bk) (hbf : bb ≠ bf) (hbk : bb ≠ bk) (hfirst : a 0 ≠ b 0) (hlast : a (N - 1) ≠ b (M - 1)) :
    Calls Try.prog 34 #[.slice (some ⟨ba, 0, none⟩) N N, .slice (some ⟨bb, 0, none⟩) M M, .slice (some ⟨bf, 0, none⟩) (2 * off + 1) (2 * off + 1), .slice (some ⟨bk, 0, none⟩) (2 * off + 1) (2 * off + 1), .int .i64 off, .int .i64 cb, .int .i64 0, .int .i64 N, .int .i64 0, .int .i64 M] w fun e w' =>
      ∃ x y : Int, e = .returned (.tuple #[.int .i64 x, .int .i64 y]) ∧ SplitOK N M x y ∧ (N + M ≤ cb → Opt a b N M x y) ∧ Only [bf, bk] w w' := by
  have la := ra.lt
  have lb := rb.lt
  have lf := rf.lt
  have lk := rk.lt
  have hal : ∀ O : Obj, O = .cells #[.slice (some ⟨ba, 0, none⟩) N N, .slice (some ⟨bb, 0, none⟩) M M, .slice none 0 0, .slice none 0 0, .slice (some ⟨bf, 0, none⟩) (2 * off + 1) (2 * off + 1), .slice (some ⟨bk, 0, none⟩) (2 * off + 1) (2 * off + 1), .int .i64 off, .int .i64 cb] 46 →
      Calls Try.prog 37 #[.pointer (some ⟨w.heap.size, 0, none⟩), .int .i64 0, .int .i64 N, .int .i64 0, .int .i64 M] (w.alloc O) fun e w' => SplitPost bf bk off cb 0 0 N M (fun i => a (0 + i)) (fun j => b (0 + j)) (w.alloc O) e w' := by
    rintro O rfl
    have h := split_any w.heap.size ba bb bf bk N M off cb 0 N 0 M a b F0 G0 (.slice none 0 0) (.slice none 0 0) (w.alloc (.cells #[.slice (some ⟨ba, 0, none⟩) N N, .slice (some ⟨bb, 0, none⟩) M M, .slice none 0 0, .slice none 0 0, .slice (some ⟨bf, 0, none⟩) (2 * off + 1) (2 * off + 1), .slice (some ⟨bk, 0, none⟩) (2 * off + 1) (2 * off + 1), .int .i64 off, .int .i64 cb] 46)) hN hM_ hn hm (by omega) (by omega) hoff hoff2 hcb hcb2
      ⟨by go_simp, by go_simp, by go_simp, by go_simp, by go_simp, by go_simp, by go_simp, by go_simp⟩ (ra.alloc _) (rb.alloc _) (rf.alloc _) (rk.alloc _) ⟨hfk, by omega, by omega, haf, hak, hbf, hbk, by simp; omega, by simp; omega⟩ hfirst (by simpa using hlast)
    simpa using h
  have HAL : Hid _ := hal
  clear hal ra rb rf rk
  go_enter Try.func34, Try.ntmps34
  go_wp2_with (go_at_call 37; refine Calls.mono (HAL.out _ rfl) ?_; rintro e w' ⟨x, y, rfl, hok, hopt, F, G, hF, hG, ho⟩)
  go_ret2
  refine ⟨x, y, ?_, hok, ?_, ((Only.refl _ _).alloc _).trans ho⟩
  · simp
  · intro h
    have := hopt h
    simpa using this

theorem run_makeDiag (N M : Nat) (h1 : N ≤ 1048576) (h2 : M ≤ 1048576) (w : World) : (Instr.makeSlice 22 (.int .i64 (2 * ((N : Int) + M + 2) + 1)) (.int .i64 (2 * ((N : Int) + M + 2) + 1))).run Try.prog w =
    .ok (.slice (some ⟨w.heap.size, 0, none⟩) (2 * (N + M + 2) + 1) (2 * (N + M + 2) + 1)) (w.alloc (.cells (madeCells #[.int .i64 0] (2 * (N + M + 2) + 1)) 3)) := by
  obtain ⟨i, hi, hz0, hz1, hz2⟩ := info_parts Try.info3
  have h := run_make (P := Try.prog) w 22 3 i (.int .i64 0) Try.underlying22 hi hz0 .i64 .i64 (2 * ((N : Int) + M + 2) + 1) (2 * ((N : Int) + M + 2) + 1) (by omega) (by omega) (by rw [hz2]; omega) (by omega)
  rw [hz1, show (2 * ((N : Int) + M + 2) + 1).toNat = 2 * (N + M + 2) + 1 by omega] at h
  simpa [Value.cells] using h

set_option maxRecDepth 100000 in
set_option maxHeartbeats 1000000 in
theorem runSplit_any (ba bb N M cb : Nat) (a b : Nat → Int) (w : World) (hN : N ≤ 1048576) (hM_ : M ≤ 1048576) (hn : 1 ≤ N) (hm : 1 ≤ M) (hcb : 1 ≤ cb) (hcb2 : cb ≤ 4194304)
    (ra : Arr w ba N 3 (fun i => .int .i64 (a i))) (rb : Arr w bb M 3 (fun i => .int .i64 (b i))) (hfirst : a 0 ≠ b 0) (hlast : a (N - 1) ≠ b (M - 1)) :
    Calls Try.prog 21 #[.slice (some ⟨ba, 0, none⟩) N N, .slice (some ⟨bb, 0, none⟩) M M, .int .i64 cb] w fun e w' =>
      ∃ x y : Int, e = .returned (.tuple #[.int .i64 x, .int .i64 y]) ∧ SplitOK N M x y ∧ (N + M ≤ cb → Opt a b N M x y) ∧ Only [] w w' := by
  have la := ra.lt
  have lb := rb.lt
  have hmk := run_makeDiag N M hN hM_
  have hal := fun (O1 O2 : Obj) (h1 : O1 = .cells (madeCells #[.int .i64 0] (2 * (N + M + 2) + 1)) 3) (h2 : O2 = .cells (madeCells #[.int .i64 0] (2 * (N + M + 2) + 1)) 3) =>
    zzSplit_any ba bb w.heap.size (w.heap.size + 1) N M (N + M + 2) cb a b (fun _ => 0) (fun _ => 0) ((w.alloc O1).alloc O2) hN hM_ hn hm (Nat.le_refl _) (by omega) hcb hcb2 ((ra.alloc _).alloc _) ((rb.alloc _).alloc _)
      (by subst h1; exact (Arr.made w 3 _ _ _ (size_madeCells _ _) (fun j hj => madeCells_at _ _ _ hj)).alloc _)
      (by subst h2; have := Arr.made (w.alloc O1) 3 (madeCells #[.int .i64 0] (2 * (N + M + 2) + 1)) (2 * (N + M + 2) + 1) (fun _ => .int .i64 0) (size_madeCells _ _) (fun j hj => madeCells_at _ _ _ hj); simpa using this)
      (by omega) (by omega) (by omega) (by omega) (by omega) hfirst hlast
  rw [show ((N + M + 2 : Nat) : Int) = (N : Int) + M + 2 by omega] at hal
  have HAL : Hid _ := hal
  clear hal ra rb
  go_enter Try.func21, Try.ntmps21
  go_wp2_with (go_at_call 34; refine Calls.mono (HAL.out _ _ rfl rfl) ?_; rintro e w' ⟨x, y, rfl, hok, hopt, ho⟩)
  go_ret2
  exact ⟨x, y, rfl, hok, hopt, (((Only.refl _ _).alloc _).alloc _).transNew ho (by simp)⟩

end Go.Proofs.Qxb6600671a
