/- zzDiffB1LcsLen computes 'lcs'. -/
import Derived.Test.Qxb6600671aSmall
import Derived.Test.Qxb6600671aLcs
import Derived.Deep.DeepCutAuto
import Derived.Deep.CutBlock
import Derived.Deep.LoopGhost
import Derived.BigQuiet
namespace Go.Proofs.Qxb6600671a
open Go.RowKit

theorem nats_upd (V : Nat → Nat) (k : Nat) (v : Nat) (j : Nat) : upd (fun i => Value.int .i64 (V i : Int)) k (.int .i64 (v : Int)) j = .int .i64 ((upd V k v j : Nat) : Int) := by
  by_cases h : j = k
  · subst h; simp [upd]
  · simp [upd, h]

theorem run_makeRow (m : Nat) (h : m ≤ 1048576) (w : World) : (Instr.makeSlice 22 (.int .i64 ((m : Int) + 1)) (.int .i64 ((m : Int) + 1))).run Try.prog w =
    .ok (.slice (some ⟨w.heap.size, 0, none⟩) (m + 1) (m + 1)) (w.alloc (.cells (madeCells #[.int .i64 0] (m + 1)) 3)) := by
  have := run_makeInts w (m + 1) (by omega)
  rw [show ((m + 1 : Nat) : Int) = (m : Int) + 1 by omega] at this
  exact this

/-- The two rows of the table: 'prev' holds row i; of 'cur' the first j cells are those of row i + 1. -/
structure LMem (w wr : World) (bp bc m : Nat) (P C : Nat → Nat) : Prop where
  rp : Arr wr bp (m + 1) 3 (fun t => .int .i64 (P t : Int))
  rc : Arr wr bc (m + 1) 3 (fun t => .int .i64 (C t : Int))
  ne : bp ≠ bc
  lp : w.heap.size ≤ bp
  lc : w.heap.size ≤ bc
  o : Only [] w wr

theorem LMem.set {w wr : World} {bp bc m : Nat} {P C : Nat → Nat} (h : LMem w wr bp bc m P C) (k v : Nat) : LMem w (wr.setCell ⟨bc, k, none⟩ (.int .i64 (v : Int))) bp bc m P (upd C k v) :=
  ⟨h.rp.setOther h.ne k _, (h.rc.set k _).congr (fun j _ => nats_upd C k v j), h.ne, h.lp, h.lc, h.o.setCell (p := ⟨bc, k, none⟩) (fun hh => by have := h.lc; simp at hh; omega) _⟩

theorem LMem.drewN {w wr : World} {bp bc m : Nat} {P C : Nat → Nat} (h : LMem w wr bp bc m P C) (q : Nat) : LMem w (wr.drewN q) bp bc m P C :=
  ⟨h.rp.keep rfl, h.rc.keep rfl, h.ne, h.lp, h.lc, h.o.drewN q⟩

theorem LMem.swap {w wr : World} {bp bc m : Nat} {P C : Nat → Nat} (h : LMem w wr bp bc m P C) : LMem w wr bc bp m C P := ⟨h.rc, h.rp, Ne.symm h.ne, h.lc, h.lp, h.o⟩

theorem lcs_step_lt (f g : Nat → Int) {i j : Nat} {C : Nat → Nat} (hC : ∀ t, t ≤ j → C t = lcs f g (i + 1) t) {v : Nat} (hv : v = lcs f g (i + 1) (j + 1)) : ∀ t, t ≤ j + 1 → upd C (j + 1) v t = lcs f g (i + 1) t := by
  intro t ht
  by_cases h : t = j + 1
  · subst h; rw [upd_same]; exact hv
  · rw [upd_other _ _ h]; exact hC t (by omega)

set_option maxRecDepth 100000 in
set_option maxHeartbeats 2000000 in
theorem lcsLen_any (a0 a1 : Option Addr) (n c0 m c1 : Nat) (f g : Nat → Int) (w : World) (hn : n ≤ 1048576) (hm : m ≤ 1048576) (hr0 : Reads w a0 n (fun i => .int .i64 (f i))) (hr1 : Reads w a1 m (fun i => .int .i64 (g i))) :
    Calls Try.prog 16 #[.slice a0 n c0, .slice a1 m c1] w fun e w' => e = .returned (.int .i64 (lcs f g n m : Int)) ∧ Only [] w w' := by
  have R0 : Hid (Reads w a0 n (fun i => .int .i64 (f i))) := hr0
  have R1 : Hid (Reads w a1 m (fun i => .int .i64 (g i))) := hr1
  clear hr0 hr1
  have hmk := run_makeRow m hm
  go_enter Try.func16, Try.ntmps16
  go_wp2_with fail
  clear hmk
  go_loopg [6, 7, 8] n (fun gk p c i wr => ∃ (bp bc k : Nat) (C : Nat → Nat), k + gk = n ∧ p = .slice (some ⟨bp, 0, none⟩) (m + 1) (m + 1) ∧ c = .slice (some ⟨bc, 0, none⟩) (m + 1) (m + 1) ∧ i = .int .i64 k ∧ LMem w wr bp bc m (fun t => lcs f g k t) C)
  case atStart =>
    have A1 : Arr ((w.alloc (.cells (madeCells #[.int .i64 0] (m + 1)) 3)).alloc (.cells (madeCells #[.int .i64 0] (m + 1)) 3)) w.heap.size (m + 1) 3 (fun _ => .int .i64 0) :=
      (Arr.made w 3 _ _ _ (size_madeCells _ _) (fun j hj => madeCells_at _ _ _ hj)).alloc _
    have A2 : Arr ((w.alloc (.cells (madeCells #[.int .i64 0] (m + 1)) 3)).alloc (.cells (madeCells #[.int .i64 0] (m + 1)) 3)) (w.heap.size + 1) (m + 1) 3 (fun _ => .int .i64 0) := by
      have := Arr.made (w.alloc (.cells (madeCells #[.int .i64 0] (m + 1)) 3)) 3 (madeCells #[.int .i64 0] (m + 1)) (m + 1) (fun _ => .int .i64 0) (size_madeCells _ _) (fun j hj => madeCells_at _ _ _ hj)
      simpa using this
    exact ⟨w.heap.size, w.heap.size + 1, 0, fun _ => 0, by omega, rfl, rfl, rfl, ⟨A1, A2, by omega, by omega, by omega, ((Only.refl _ _).alloc _).alloc _⟩⟩
  case round =>
    obtain ⟨bp, bc, k, C, hk, rfl, rfl, rfl, hM⟩ := hrel
    by_cases hlt : k < n
    · have hc0 := hM.rc.cell (j := 0) (by omega)
      have hf0 := hM.rc.frozen 0
      have hM1 := hM.set 0 0
      clear hM
      go_upto_block 2 with fail
      go_cut [9] from 18 to 77 (fun j wx => ∃ C : Nat → Nat, Aside (∀ t, t ≤ m → C t = lcs f g (k + 1) t) ∧ LMem w wx bp bc m (fun t => lcs f g k t) C)
      case first =>
        clear hc0 hf0
        go_wp2_with fail
        go_loopg [9] m (fun gk jv wr => ∃ (j : Nat) (C : Nat → Nat), j + gk = m ∧ jv = .int .i64 j ∧ Aside (∀ t, t ≤ j → C t = lcs f g (k + 1) t) ∧ LMem w wr bp bc m (fun t => lcs f g k t) C)
        case atStart => exact ⟨0, upd C 0 0, by omega, rfl, fun t ht => by rw [show t = 0 by omega, upd_same, lcs_zero_right], hM1⟩
        case round =>
          clear hM1
          obtain ⟨j, C2, hj, rfl, hC, hM⟩ := hrel
          by_cases hjm : j < m
          · rcases R0.out with h | ⟨b0, o0, rfl, hb0, hx0⟩
            · omega
            rcases R1.out with h | ⟨b1, o1, rfl, hb1, hx1⟩
            · omega
            have x0 : wr.cell? ⟨b0, o0 + k, none⟩ = some (.int .i64 (f k)) := (hM.o.cell hb0 (by simp)).trans (hx0 k hlt)
            have x1 : wr.cell? ⟨b1, o1 + j, none⟩ = some (.int .i64 (g j)) := (hM.o.cell hb1 (by simp)).trans (hx1 j hjm)
            clear hx0 hx1
            have HL : Hid (lcs f g (k + 1) (j + 1) = if f k = g j then lcs f g k j + 1 else max (lcs f g k (j + 1)) (lcs f g (k + 1) j)) := lcs_succ f g k j
            have p1 := hM.rp.cell (j := j) (by omega)
            have p2 := hM.rp.cell (j := j + 1) (by omega)
            have q1 := hM.rc.cell (j := j) (by omega)
            have q2 := hM.rc.cell (j := j + 1) (by omega)
            have q3 := hM.rc.frozen (j + 1)
            rw [hC.out j (Nat.le_refl _)] at q1
            have l1 := lcs_le_right f g k j
            have l2 := lcs_le_right f g k (j + 1)
            have l3 := lcs_le_right f g (k + 1) j
            generalize e1 : lcs f g k j = v1 at *
            generalize e2 : lcs f g k (j + 1) = v2 at *
            generalize e3 : lcs f g (k + 1) j = v3 at *
            clear e1 e2 e3
            by_cases hEq : f k = g j
            · have hb : (f k == g j) = true := by simpa using hEq
              have hC' : Aside (∀ t, t ≤ j + 1 → upd C2 (j + 1) (v1 + 1) t = lcs f g (k + 1) t) := lcs_step_lt f g hC.out (by rw [HL.out, if_pos hEq])
              have hM' := fun q => (hM.drewN q).set (j + 1) (v1 + 1)
              have HM' : Hid (∀ q, LMem w ((wr.drewN q).setCell ⟨bc, j + 1, none⟩ (.int .i64 ((v1 : Int) + 1))) bp bc m (fun t => lcs f g k t) (upd C2 (j + 1) (v1 + 1))) := fun q => by have := hM' q; rw [show ((v1 + 1 : Nat) : Int) = (v1 : Int) + 1 by omega] at this; exact this
              clear hEq hM' hC HL
              go_wp2_with fail
              go_quiet (fail)
              go_wp2_with fail
              go_roundg (gk - 1)
              case measure => omega
              case rel => exact ⟨j + 1, upd C2 (j + 1) (v1 + 1), by omega, by go_num, hC', HM'.out _⟩
            · have hb : (f k == g j) = false := by simpa using hEq
              by_cases hge : v3 ≤ v2
              · have hC' : Aside (∀ t, t ≤ j + 1 → upd C2 (j + 1) v2 t = lcs f g (k + 1) t) := lcs_step_lt f g hC.out (by rw [HL.out, if_neg hEq]; omega)
                have HM' : Hid (∀ q, LMem w ((wr.drewN q).setCell ⟨bc, j + 1, none⟩ (.int .i64 (v2 : Int))) bp bc m (fun t => lcs f g k t) (upd C2 (j + 1) v2)) := fun q => (hM.drewN q).set (j + 1) v2
                have hgI : (v3 : Int) ≤ (v2 : Int) := by omega
                clear hEq hC HL
                go_wp2_with fail
                go_quiet (fail)
                go_wp2_with fail
                go_quiet (fail)
                go_wp2_with fail
                go_roundg (gk - 1)
                case measure => omega
                case rel => exact ⟨j + 1, upd C2 (j + 1) v2, by omega, by go_num, hC', HM'.out _⟩
              · have hC' : Aside (∀ t, t ≤ j + 1 → upd C2 (j + 1) v3 t = lcs f g (k + 1) t) := lcs_step_lt f g hC.out (by rw [HL.out, if_neg hEq]; omega)
                have HM' : Hid (∀ q, LMem w ((wr.drewN q).setCell ⟨bc, j + 1, none⟩ (.int .i64 (v3 : Int))) bp bc m (fun t => lcs f g k t) (upd C2 (j + 1) v3)) := fun q => (hM.drewN q).set (j + 1) v3
                have hgI : decide ((v3 : Int) ≤ (v2 : Int)) = false := decide_eq_false (by omega)
                clear hEq hC HL
                go_wp2_with fail
                go_quiet (fail)
                go_wp2_with fail
                go_quiet (fail)
                go_wp2_with fail
                go_roundg (gk - 1)
                case measure => omega
                case rel => exact ⟨j + 1, upd C2 (j + 1) v3, by omega, by go_num, hC', HM'.out _⟩
          · have hC' : Aside (∀ t, t ≤ m → C2 t = lcs f g (k + 1) t) := fun t ht => hC.out t (by omega)
            go_wp2_with fail
            go_meet
            case rel => exact ⟨C2, hC', hM⟩
      case rest =>
        clear hM1 hc0 hf0
        obtain ⟨C2, hC, hM⟩ := hcut
        have hM2 : LMem w wc bc bp m (fun t => lcs f g (k + 1) t) (fun t => lcs f g k t) := ⟨hM.rc.congr (fun t ht => by rw [hC.out t (by omega)]), hM.rp, Ne.symm hM.ne, hM.lc, hM.lp, hM.o⟩
        clear hM hC
        go_wp2_with fail
        go_roundg (gk - 1)
        case measure => omega
        case rel => exact ⟨bc, bp, k + 1, fun t => lcs f g k t, by omega, rfl, rfl, by go_num, hM2⟩
    · obtain rfl : k = n := by omega
      have hcm := hM.rp.cell (j := m) (by omega)
      have ho := hM.o
      have hl := lcs_le_right f g k m
      generalize e1 : lcs f g k m = v at *
      have E1 : Hid (lcs f g k m = v) := e1
      clear hM e1
      go_wp2_with fail
      go_ret
      exact ⟨by rw [E1.out]; rfl, ho⟩

end Go.Proofs.Qxb6600671a
