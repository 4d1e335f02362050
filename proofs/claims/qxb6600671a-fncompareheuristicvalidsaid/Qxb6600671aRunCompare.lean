/- The roads to 'compare', and what the laws do with its marks. -/
import Derived.Test.Qxb6600671aCompare
import Derived.Test.Qxb6600671aRunSplit
import Derived.Test.Qxb6600671aLcsLen
namespace Go.Proofs.Qxb6600671a
open Go.RowKit

set_option maxRecDepth 100000 in
set_option maxHeartbeats 1000000 in
theorem zzCompare_any (ao bo : Option Addr) (ba bb bd bi bf bk N M off cb : Nat) (a b F0 G0 : Nat → Int) (w : World) (hN : N ≤ 1048576) (hM_ : M ≤ 1048576) (hoff : N + M + 2 ≤ off) (hoff2 : off ≤ 4194304) (hcb : 1 ≤ cb) (hcb2 : cb ≤ 4194304)
    (ra : 0 < N → ao = some ⟨ba, 0, none⟩ ∧ Arr w ba N 3 (fun i => .int .i64 (a i))) (rb : 0 < M → bo = some ⟨bb, 0, none⟩ ∧ Arr w bb M 3 (fun i => .int .i64 (b i)))
    (rd : Arr w bd N 4 (fun _ => .bool false)) (ri : Arr w bi M 4 (fun _ => .bool false)) (rf : Arr w bf (2 * off + 1) 3 (fun i => .int .i64 (F0 i))) (rk : Arr w bk (2 * off + 1) 3 (fun i => .int .i64 (G0 i)))
    (AP : Apart4 w.heap.size ba bb bd bi bf bk) :
    Calls Try.prog 33 #[.slice ao N N, .slice bo M M, .slice (some ⟨bd, 0, none⟩) N N, .slice (some ⟨bi, 0, none⟩) M M, .slice (some ⟨bf, 0, none⟩) (2 * off + 1) (2 * off + 1), .slice (some ⟨bk, 0, none⟩) (2 * off + 1) (2 * off + 1), .int .i64 off, .int .i64 cb, .int .i64 0, .int .i64 N, .int .i64 0, .int .i64 M] w fun e w' =>
      e = .returned (.tuple #[]) ∧ ∃ del ins : Nat → Bool, Arr w' bd N 4 (fun i => .bool (del i)) ∧ Arr w' bi M 4 (fun i => .bool (ins i)) ∧ Good a b del ins (N + M ≤ cb) 0 N 0 M ∧ Only [bd, bi, bf, bk] w w' := by
  have hal : ∀ O : Obj, O = .cells #[.slice ao N N, .slice bo M M, .slice (some ⟨bd, 0, none⟩) N N, .slice (some ⟨bi, 0, none⟩) M M, .slice (some ⟨bf, 0, none⟩) (2 * off + 1) (2 * off + 1), .slice (some ⟨bk, 0, none⟩) (2 * off + 1) (2 * off + 1), .int .i64 off, .int .i64 cb] 46 →
      Calls Try.prog 36 #[.pointer (some ⟨w.heap.size, 0, none⟩), .int .i64 0, .int .i64 N, .int .i64 0, .int .i64 M] (w.alloc O) fun e w' => CmpPost w.heap.size ao bo ba bb bd bi bf bk N M off cb a b (fun _ => false) (fun _ => false) 0 N 0 M (w.alloc O) e w' := by
    rintro O rfl
    exact compare_any w.heap.size ao bo ba bb bd bi bf bk N M off cb a b hN hM_ hoff hoff2 hcb hcb2 AP (N + M) 0 N 0 M _ _ _ _ (w.alloc (.cells #[.slice ao N N, .slice bo M M, .slice (some ⟨bd, 0, none⟩) N N, .slice (some ⟨bi, 0, none⟩) M M, .slice (some ⟨bf, 0, none⟩) (2 * off + 1) (2 * off + 1), .slice (some ⟨bk, 0, none⟩) (2 * off + 1) (2 * off + 1), .int .i64 off, .int .i64 cb] 46)) F0 G0 _ _ (by omega) (by omega) (Nat.le_refl _) (by omega) (Nat.le_refl _) rfl rfl rfl rfl
      ⟨⟨by go_simp, by go_simp, by go_simp, by go_simp, by go_simp, by go_simp, by go_simp, by go_simp⟩, fun p => ⟨(ra p).1, (ra p).2.alloc _⟩, fun p => ⟨(rb p).1, (rb p).2.alloc _⟩, rd.alloc _, ri.alloc _, rf.alloc _, rk.alloc _⟩ (fun _ _ _ => rfl) (fun _ _ _ => rfl)
  have HAL : Hid _ := hal
  clear hal ra rb rd ri rf rk
  go_enter Try.func33, Try.ntmps33
  go_wp2_with (go_at_call 36; refine Calls.mono (HAL.out _ rfl) ?_; rintro e w' ⟨rfl, del, ins, F, G, hM, ho, hg, -, -⟩)
  go_end0
  exact ⟨rfl, del, ins, hM.rd, hM.ri, hg, ((Only.refl _ _).alloc _).trans ho⟩

set_option maxRecDepth 100000 in
set_option maxHeartbeats 1000000 in
theorem runCompare_any (ao bo : Option Addr) (ba bb N M cb : Nat) (a b : Nat → Int) (w : World) (hN : N ≤ 1048576) (hM_ : M ≤ 1048576) (hcb : 1 ≤ cb) (hcb2 : cb ≤ 4194304)
    (ra : 0 < N → ao = some ⟨ba, 0, none⟩ ∧ Arr w ba N 3 (fun i => .int .i64 (a i))) (rb : 0 < M → bo = some ⟨bb, 0, none⟩ ∧ Arr w bb M 3 (fun i => .int .i64 (b i))) (hba : ∀ t, t < 5 → ba ≠ w.heap.size + t) (hbb : ∀ t, t < 5 → bb ≠ w.heap.size + t) :
    Calls Try.prog 13 #[.slice ao N N, .slice bo M M, .int .i64 cb, .int .i64 0, .int .i64 N, .int .i64 0, .int .i64 M] w fun e w' =>
      e = .returned (.tuple #[.slice (some ⟨w.heap.size, 0, none⟩) N N, .slice (some ⟨w.heap.size + 1, 0, none⟩) M M]) ∧
        ∃ del ins : Nat → Bool, Arr w' w.heap.size N 4 (fun i => .bool (del i)) ∧ Arr w' (w.heap.size + 1) M 4 (fun i => .bool (ins i)) ∧ Good a b del ins (N + M ≤ cb) 0 N 0 M ∧ Only [] w w' := by
  have hmk := run_makeDiag N M hN hM_
  have hmN := fun w => run_makeBools w N (by omega)
  have hmM := fun w => run_makeBools w M (by omega)
  have hal := fun (O1 O2 O3 O4 : Obj) (e1 : O1 = .cells (madeCells #[.bool false] N) 4) (e2 : O2 = .cells (madeCells #[.bool false] M) 4) (e3 : O3 = .cells (madeCells #[.int .i64 0] (2 * (N + M + 2) + 1)) 3) (e4 : O4 = .cells (madeCells #[.int .i64 0] (2 * (N + M + 2) + 1)) 3) =>
    zzCompare_any ao bo ba bb w.heap.size (w.heap.size + 1) (w.heap.size + 1 + 1) (w.heap.size + 1 + 1 + 1) N M (N + M + 2) cb a b (fun _ => 0) (fun _ => 0) ((((w.alloc O1).alloc O2).alloc O3).alloc O4) hN hM_ (Nat.le_refl _) (by omega) hcb hcb2
      (fun p => ⟨(ra p).1, ((((ra p).2.alloc _).alloc _).alloc _).alloc _⟩) (fun p => ⟨(rb p).1, ((((rb p).2.alloc _).alloc _).alloc _).alloc _⟩)
      (by subst e1; exact (((Arr.made w 4 _ _ _ (size_madeCells _ _) (fun j hj => madeCells_at _ _ _ hj)).alloc _).alloc _).alloc _)
      (by subst e2; have := (((Arr.made (w.alloc O1) 4 (madeCells #[.bool false] M) M (fun _ => .bool false) (size_madeCells _ _) (fun j hj => madeCells_at _ _ _ hj)).alloc O3).alloc O4); simpa using this)
      (by subst e3; have := ((Arr.made ((w.alloc O1).alloc O2) 3 (madeCells #[.int .i64 0] (2 * (N + M + 2) + 1)) (2 * (N + M + 2) + 1) (fun _ => .int .i64 0) (size_madeCells _ _) (fun j hj => madeCells_at _ _ _ hj)).alloc O4); simpa using this)
      (by subst e4; have := (Arr.made (((w.alloc O1).alloc O2).alloc O3) 3 (madeCells #[.int .i64 0] (2 * (N + M + 2) + 1)) (2 * (N + M + 2) + 1) (fun _ => .int .i64 0) (size_madeCells _ _) (fun j hj => madeCells_at _ _ _ hj)); simpa using this)
      ⟨by omega, by omega, by omega, by omega, by omega, by omega, by simp; omega, ⟨hba 0 (by omega), hba 1 (by omega), hba 2 (by omega), hba 3 (by omega)⟩, ⟨hbb 0 (by omega), hbb 1 (by omega), hbb 2 (by omega), hbb 3 (by omega)⟩⟩
  rw [show ((N + M + 2 : Nat) : Int) = (N : Int) + M + 2 by omega] at hal
  have HAL : Hid _ := hal
  clear hal ra rb hba hbb
  go_enter Try.func13, Try.ntmps13
  go_wp2_with (go_at_call 33; refine Calls.mono (HAL.out _ _ _ _ rfl rfl rfl rfl) ?_; rintro e w' ⟨rfl, del, ins, hd, hi, hg, ho⟩)
  go_ret2
  exact ⟨rfl, del, ins, hd, hi, hg, (((((Only.refl _ _).alloc _).alloc _).alloc _).alloc _).transNew ho (by simp; omega)⟩

theorem kept_skip {a : Nat → Int} {d : Nat → Bool} {i n : Nat} (h : i < n) (hd : d i = true) : kept a d i (n - i) = kept a d (i + 1) (n - (i + 1)) := by
  rw [show n - i = (n - (i + 1)) + 1 by omega]
  simp [kept, hd]

theorem kept_take {a : Nat → Int} {d : Nat → Bool} {i n : Nat} (h : i < n) (hd : d i = false) : kept a d i (n - i) = a i :: kept a d (i + 1) (n - (i + 1)) := by
  rw [show n - i = (n - (i + 1)) + 1 by omega]
  simp [kept, hd]

end Go.Proofs.Qxb6600671a
