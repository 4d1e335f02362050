/- runCertify. -/
import Derived.Test.Qxb6601548aRun
namespace Go.Proofs.Qxb6601548a
open Go.RowKit

theorem Try.info51 : (Try.prog.info? 51).map (fun i => (i.zero, i.size, i.bytes)) = some (some (.int .i8 0), 1, 1) := by kernel_rfl

theorem run_makeFix (w : World) (n : Nat) (hn : n ≤ 4194304) : (Instr.makeSlice 50 (.int .i64 n) (.int .i64 n)).run Try.prog w =
    .ok (.slice (some ⟨w.heap.size, 0, none⟩) n n) (w.alloc (.cells (madeCells #[.int .i8 0] n) 51)) := by
  obtain ⟨i, hi, hz0, hz1, hz2⟩ := info_parts Try.info51
  have h := run_make (P := Try.prog) w 50 51 i (.int .i8 0) Try.underlying50 hi hz0 .i64 .i64 n n (by omega) (by omega) (by rw [hz2]; omega) (by omega)
  rw [hz1] at h
  simpa [Value.cells] using h

/-- Three new rows, one behind the other. -/
def three (w : World) (n1 n2 n3 : Nat) : World := (((w.alloc (.cells (madeCells #[.float .f64 0] n1) 34)).alloc (.cells (madeCells #[.float .f64 0] n2) 34)).alloc (.cells (madeCells #[.float .f64 0] n3) 34)).drew

theorem arr3a (w : World) (n1 n2 n3 : Nat) : Arr (three w n1 n2 n3) w.heap.size n1 34 (fun _ => .float .f64 0) :=
  (((Arr.made w 34 _ n1 _ (size_madeCells _ _) (fun _ hj => madeCells_at _ _ _ hj)).alloc _).alloc _).drew
theorem arr3b (w : World) (n1 n2 n3 : Nat) : Arr (three w n1 n2 n3) (w.heap.size + 1) n2 34 (fun _ => .float .f64 0) := by
  have h := Arr.made (w.alloc (.cells (madeCells #[.float .f64 0] n1) 34)) 34 _ n2 (fun _ => .float .f64 0) (size_madeCells _ _) (fun j hj => madeCells_at _ _ _ hj)
  rw [show (w.alloc (.cells (madeCells #[.float .f64 0] n1) 34)).heap.size = w.heap.size + 1 by simp] at h
  exact (h.alloc _).drew
theorem arr3c (w : World) (n1 n2 n3 : Nat) : Arr (three w n1 n2 n3) (w.heap.size + 1 + 1) n3 34 (fun _ => .float .f64 0) := by
  have h := Arr.made ((w.alloc (.cells (madeCells #[.float .f64 0] n1) 34)).alloc (.cells (madeCells #[.float .f64 0] n2) 34)) 34 _ n3 (fun _ => .float .f64 0) (size_madeCells _ _) (fun j hj => madeCells_at _ _ _ hj)
  rw [show ((w.alloc (.cells (madeCells #[.float .f64 0] n1) 34)).alloc (.cells (madeCells #[.float .f64 0] n2) 34)).heap.size = w.heap.size + 1 + 1 by simp] at h
  exact h.drew
theorem only3 (w : World) (n1 n2 n3 : Nat) : Only [] w (three w n1 n2 n3) := ((((Only.refl _ _).alloc _).alloc _).alloc _).drew

/-- What runCertify leaves. -/
def RunPost (I : Cin) (w : World) (e : Ending) (w' : World) : Prop := ∃ bs bl, e = .returned (.tuple #[.slice (some ⟨bs, 0, none⟩) I.n I.n, .slice (some ⟨bl, 0, none⟩) I.e I.e]) ∧ Arr w' bs I.n 34 (fun i => .float .f64 (I.share i)) ∧ Only [] w w'

set_option maxRecDepth 100000 in
set_option maxHeartbeats 4000000 in
theorem run_any (I : Cin) (F : I.Fits) (w : World) (a0 a1 a2 a3 a4 a5 : Option Addr) (b0 : I.e ≤ 1048576) (b2 : I.ml ≤ 1048576) (b3 : I.n ≤ 1048576) (b4 : I.wl ≤ 1048576)
    (r0 : ReadsO [] w a0 I.e (fun i => .float .f64 (I.wt i))) (r1 : ReadsO [] w a1 I.e (fun i => .int .i8 (I.fx i))) (r2 : ReadsO [] w a2 I.ml (fun i => .int .i32 (I.mem i))) (r3 : ReadsO [] w a3 I.n (fun i => .int .i64 (I.en i)))
    (r4 : ReadsO [] w a4 I.wl (fun i => .int .i32 (I.wh i))) (r5 : ReadsO [] w a5 I.vl (fun i => .float .f64 (I.val i))) :
    Calls Try.prog 15 #[.slice a0 I.e I.e, .slice a1 I.e I.e, .slice a2 I.ml I.ml, .slice a3 I.n I.n, .slice a4 I.wl I.wl, .slice a5 I.vl I.vl] w
      fun e w' => RunPost I w e w' := by
  have hmk := run_makeFix w I.e (by omega)
  have R1 : Hid (ReadsO [] w a1 I.e (fun i => .int .i8 (I.fx i))) := r1
  have RR : Hid (ReadsO [] w a0 I.e (fun i => .float .f64 (I.wt i)) ∧ ReadsO [] w a2 I.ml (fun i => .int .i32 (I.mem i)) ∧ ReadsO [] w a3 I.n (fun i => .int .i64 (I.en i)) ∧ ReadsO [] w a4 I.wl (fun i => .int .i32 (I.wh i)) ∧ ReadsO [] w a5 I.vl (fun i => .float .f64 (I.val i))) := ⟨r0, r2, r3, r4, r5⟩
  have HF : Hid I.Fits := F
  clear r0 r1 r2 r3 r4 r5 F
  go_enter Try.func15, Try.ntmps15
  go_upto_block 0 with fail
  clear hmk
  go_cut [16] from 21 to 32 (fun iv wx => Arr wx w.heap.size I.e 51 (fun i => .int .i8 (I.fx i)) ∧ Only [] w wx)
  case first =>
    go_wp2_with fail
    go_loopg [16] I.e (fun gk iv wr => ∃ (k : Nat) (g : Nat → Int), k + gk = I.e ∧ iv = .int .i64 k ∧ Arr wr w.heap.size I.e 51 (fun i => .int .i8 (g i)) ∧ Only [] w wr ∧ Aside (∀ i, i < k → g i = I.fx i))
    case atStart => exact ⟨0, fun _ => 0, by omega, rfl, Arr.made _ _ _ _ _ (size_madeCells _ _) (fun j hj => madeCells_at _ _ _ hj), (Only.refl _ _).alloc _, fun i hi => by omega⟩
    case round =>
      obtain ⟨k, g, hk, rfl, hA, ho, hg⟩ := hrel
      by_cases hlt : k < I.e
      · obtain ⟨x1, rfl, d1⟩ := (ReadsO.only R1.out ho).cell hlt
        have hI : (k : Int) < (I.e : Int) := by omega
        have c1 := hA.cell hlt
        have c2 := hA.frozen k
        have HA' : Hid (Arr (wr.setCell ⟨w.heap.size, k, none⟩ (.int .i8 (I.fx k))) w.heap.size I.e 51 (fun i => .int .i8 (upd g k (I.fx k) i))) := (hA.set k (.int .i8 (I.fx k))).congr (fun i _ => by unfold upd; split <;> rfl)
        have HO' : Hid (Only [] w (wr.setCell ⟨w.heap.size, k, none⟩ (.int .i8 (I.fx k)))) := ho.setCell (p := ⟨w.heap.size, k, none⟩) (fun h => by simp at h) _
        have HG : Hid (∀ i, i < k + 1 → upd g k (I.fx k) i = I.fx i) := fun i hi => by
          by_cases h : i = k
          · subst h; rw [upd_same]
          · rw [upd_other _ _ h]; exact hg.out i (by omega)
        clear hA ho hg
        go_wp2_with fail
        go_roundg (gk - 1)
        case measure => omega
        case rel => exact ⟨k + 1, upd g k (I.fx k), by omega, by go_num, HA'.out, HO'.out, HG.out⟩
      · obtain rfl : k = I.e := by omega
        go_wp2_with fail
        go_meet
        case rel => exact ⟨hA.congr (fun i hi => by rw [hg.out i hi]), ho⟩
  case rest =>
    obtain ⟨hA, ho⟩ := hcut
    have HX : Hid (∀ (bl bc bs : Nat) (wm : World), Only [] wc wm → (bs ≠ bl ∧ bs ≠ bc ∧ bl ≠ bc) → (wc.heap.size ≤ bl ∧ wc.heap.size ≤ bc ∧ wc.heap.size ≤ bs) → Arr wm bl I.e 34 (fun _ => .float .f64 0) → Arr wm bc I.e 34 (fun _ => .float .f64 0) → Arr wm bs I.n 34 (fun _ => .float .f64 0) →
        Calls Try.prog 34 #[.slice a0 I.e I.e, .slice (some ⟨w.heap.size, 0, none⟩) I.e I.e, .slice a2 I.ml I.ml, .slice a3 I.n I.n, .slice a4 I.wl I.wl, .slice a5 I.vl I.vl, .slice (some ⟨bl, 0, none⟩) I.e I.e, .slice (some ⟨bc, 0, none⟩) I.e I.e, .slice (some ⟨bs, 0, none⟩) I.n I.n] wm fun e w' => RunPost I w e w') := by
      intro bl bc bs wm hom hne hge hL hC hS
      have hwl : w.heap.size < wc.heap.size := hA.lt
      have up : ∀ {ao : Option Addr} {len : Nat} {f : Nat → Value}, ReadsO [] w ao len f → ReadsO [bs, bl, bc] wm ao len f := by
        intro ao len f h
        rcases (h.only ho).only hom with h2 | ⟨b, rfl, hb, _, hc⟩
        · exact .inl h2
        · refine .inr ⟨b, rfl, hb, ?_, hc⟩
          have hbw : b < w.heap.size := by
            rcases h with h3 | ⟨b', h3, h4, _⟩
            · cases h3.1
            · obtain rfl : b = b' := by simpa using h3
              exact h4
          simp only [List.mem_cons, List.not_mem_nil, or_false]
          omega
      have hfx := hom.arr hA (by simp)
      refine (zz_any I HF.out wm bs bl bc w.heap.size a0 a2 a3 a4 a5 b0 b2 b3 b4 hne ⟨hfx.lt, by simp only [List.mem_cons, List.not_mem_nil, or_false]; omega⟩ (fun i hi => hfx.cell hi)
        (up RR.out.1) (up RR.out.2.1) (up RR.out.2.2.1) (up RR.out.2.2.2.1) (up RR.out.2.2.2.2) (fun _ => 0) (fun _ => 0) (fun _ => 0) hS hL hC).mono ?_
      rintro e w' ⟨rfl, h1, h2⟩
      refine ⟨bs, bl, rfl, h1, (ho.trans hom).transNew h2 ?_⟩
      intro i hi hlt
      simp only [List.mem_cons, List.not_mem_nil, or_false] at hi
      omega
    clear hA ho R1 RR
    have hmE : ∀ w : World, (Instr.makeSlice 22 (.int .i64 I.e) (.int .i64 I.e)).run Try.prog w = .ok (.slice (some ⟨w.heap.size, 0, none⟩) I.e I.e) (w.alloc (.cells (madeCells #[.float .f64 0] I.e) 34)) := fun w => run_makeF w I.e (by omega)
    have hmN : ∀ w : World, (Instr.makeSlice 22 (.int .i64 I.n) (.int .i64 I.n)).run Try.prog w = .ok (.slice (some ⟨w.heap.size, 0, none⟩) I.n I.n) (w.alloc (.cells (madeCells #[.float .f64 0] I.n) 34)) := fun w => run_makeF w I.n (by omega)
    go_upto_region 7 with fail
    go_region_with (go_at_call 34; refine Calls.mono (HX.out _ _ _ _ ?_ ?_ ?_ ?_ ?_ ?_) ?_; exact only3 _ _ _ _; omega; omega; (first | exact arr3a _ _ _ _ | exact arr3b _ _ _ _ | exact arr3c _ _ _ _); (first | exact arr3a _ _ _ _ | exact arr3b _ _ _ _ | exact arr3c _ _ _ _); (first | exact arr3a _ _ _ _ | exact arr3b _ _ _ _ | exact arr3c _ _ _ _); rintro e w' ⟨bs, bl, rfl, hA, ho⟩)
    all_goals
      have HA : Hid (Arr w' bs I.n 34 (fun i => .float .f64 (I.share i))) := hA
      have HO : Hid (Only [] w w') := ho
      clear hA ho HX hmE hmN
      go_wp2_with fail
      go_ret2
      exact ⟨bs, bl, rfl, HA.out, HO.out⟩

end Go.Proofs.Qxb6601548a
