/- ZZCertify and runCertify. -/
import Derived.Test.Qxb6601548aCertify
import Derived.Deep.RegionWith
namespace Go.Proofs.Qxb6601548a
open Go.RowKit

theorem cell_at_alloc (w : World) (c : Array Value) (t : TypeId) (i : Nat) : (w.alloc (.cells c t)).cell? ⟨w.heap.size, i, none⟩ = c[i]? := by
  have h : (w.alloc (.cells c t)).heap[w.heap.size]? = some (.cells c t) := by
    show (w.heap.push _)[w.heap.size]? = _
    simp
  unfold World.cell?
  simp only [h]
  rfl

set_option maxRecDepth 100000 in
set_option maxHeartbeats 4000000 in
theorem zz_any (I : Cin) (F : I.Fits) (w : World) (bs bl bc bf : Nat) (a0 a2 a3 a4 a5 : Option Addr) (b0 : I.e ≤ 1048576) (b2 : I.ml ≤ 1048576) (b3 : I.n ≤ 1048576) (b4 : I.wl ≤ 1048576)
    (hne : bs ≠ bl ∧ bs ≠ bc ∧ bl ≠ bc) (hbf : bf < w.heap.size ∧ ¬ bf ∈ [bs, bl, bc]) (r1 : ∀ i, i < I.e → w.cell? ⟨bf, i, none⟩ = some (.int .i8 (I.fx i)))
    (r0 : ReadsO [bs, bl, bc] w a0 I.e (fun i => .float .f64 (I.wt i))) (r2 : ReadsO [bs, bl, bc] w a2 I.ml (fun i => .int .i32 (I.mem i))) (r3 : ReadsO [bs, bl, bc] w a3 I.n (fun i => .int .i64 (I.en i)))
    (r4 : ReadsO [bs, bl, bc] w a4 I.wl (fun i => .int .i32 (I.wh i))) (r5 : ReadsO [bs, bl, bc] w a5 I.vl (fun i => .float .f64 (I.val i))) (fs fl fc : Nat → Nat)
    (hS : Arr w bs I.n 34 (fun i => .float .f64 (fs i))) (hL : Arr w bl I.e 34 (fun i => .float .f64 (fl i))) (hC : Arr w bc I.e 34 (fun i => .float .f64 (fc i))) :
    Calls Try.prog 34 #[.slice a0 I.e I.e, .slice (some ⟨bf, 0, none⟩) I.e I.e, .slice a2 I.ml I.ml, .slice a3 I.n I.n, .slice a4 I.wl I.wl, .slice a5 I.vl I.vl, .slice (some ⟨bl, 0, none⟩) I.e I.e, .slice (some ⟨bc, 0, none⟩) I.e I.e, .slice (some ⟨bs, 0, none⟩) I.n I.n] w
      fun e w' => e = .returned (.tuple #[.slice (some ⟨bs, 0, none⟩) I.n I.n, .slice (some ⟨bl, 0, none⟩) I.e I.e]) ∧ Arr w' bs I.n 34 (fun i => .float .f64 (I.share i)) ∧ Only [bs, bl, bc] w w' := by
  have HX : Hid (∀ c : Array Value, c[0]? = some (.slice a0 I.e I.e) → c[1]? = some (.slice (some ⟨bf, 0, none⟩) I.e I.e) → c[3]? = some (.slice a2 I.ml I.ml) → c[4]? = some (.slice a3 I.n I.n) → c[8]? = some (.slice a5 I.vl I.vl) → c[12]? = some (.slice a4 I.wl I.wl) →
      c[31]? = some (.slice (some ⟨bl, 0, none⟩) I.e I.e) → c[36]? = some (.slice (some ⟨bs, 0, none⟩) I.n I.n) → c[37]? = some (.slice (some ⟨bc, 0, none⟩) I.e I.e) →
      Calls Try.prog 39 #[.pointer (some ⟨w.heap.size, 0, none⟩)] (w.alloc (.cells c 62)) fun e w' => e = .returned (.tuple #[]) ∧ Arr w' bs I.n 34 (fun i => .float .f64 (I.share i)) ∧ Only [bs, bl, bc] w w' ∧ Env I [bs, bl, bc] w' w.heap.size bs bl bc bf a0 a2 a3 a4 a5) := by
    intro c h0 h1 h3 h4 h8 h12 h31 h36 h37
    have hO : Only [bs, bl, bc] w (w.alloc (.cells c 62)) := (Only.refl _ _).alloc _
    have hE : Env I [bs, bl, bc] (w.alloc (.cells c 62)) w.heap.size bs bl bc bf a0 a2 a3 a4 a5 := by
      refine ⟨by rw [cell_at_alloc]; exact h0, by rw [cell_at_alloc]; exact h1, by rw [cell_at_alloc]; exact h3, by rw [cell_at_alloc]; exact h4, by rw [cell_at_alloc]; exact h8, by rw [cell_at_alloc]; exact h12, by rw [cell_at_alloc]; exact h31, by rw [cell_at_alloc]; exact h36, by rw [cell_at_alloc]; exact h37, ?_, ?_, ?_, r0.only hO, r2.only hO, r3.only hO, r4.only hO, r5.only hO⟩
      · refine ⟨by simp, ?_⟩
        have x1 := hS.lt
        have x2 := hL.lt
        have x3 := hC.lt
        simp only [List.mem_cons, List.not_mem_nil, or_false]
        omega
      · exact ⟨Nat.lt_of_lt_of_le hbf.1 hO.size, hbf.2⟩
      · intro i hi
        rw [hO.cell hbf.1 hbf.2]
        exact r1 i hi
    refine (certify_any I F _ w.heap.size bs bl bc bf a0 a2 a3 a4 a5 b0 b2 b3 b4 hE hne fs fl fc (hS.alloc _) (hL.alloc _) (hC.alloc _)).mono ?_
    rintro e w' ⟨rfl, h5, h6⟩
    exact ⟨rfl, h5, hO.trans h6, hE.only h6⟩
  clear F hne hbf r1 r0 r2 r3 r4 r5 hS hL hC
  go_enter Try.func34, Try.ntmps34
  go_wp2_with fail
  refine Calls.mono (HX.out _ rfl rfl rfl rfl rfl rfl rfl rfl rfl) ?_
  rintro e w' ⟨rfl, hA, ho, hE⟩
  clear HX
  have d36 := hE.d36
  have d31 := hE.d31
  have HA : Hid (Arr w' bs I.n 34 (fun i => .float .f64 (I.share i))) := hA
  have HO : Hid (Only [bs, bl, bc] w w') := ho
  clear hA ho hE
  go_wp2_with fail
  go_quiet (fail)
  go_wp2_with fail
  go_ret2
  exact ⟨rfl, Arr.keep HA.out rfl, Only.drewN HO.out _⟩

end Go.Proofs.Qxb6601548a
