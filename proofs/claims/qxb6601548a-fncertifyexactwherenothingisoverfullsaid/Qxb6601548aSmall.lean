/- The copies, and what is made. -/
import Derived.Test.Qxb6601548aRows
import Derived.Test.Qxb6601548aMem
import Derived.Lib.SliceRun
import Derived.BigQuiet
import Derived.Deep.DeepCutAuto
import Derived.Deep.CutBlock
import Derived.Deep.LoopGhost
import Derived.Laws.FloatArith
namespace Go.Proofs.Qxb6601548a
open Go.RowKit

@[go_sem] theorem run_store_float (P : Program) (w : World) (a : Addr) (k : FloatKind) (b : Nat) (m : Mode) : (store a (.float k b) m).run P w = stored P w a (.float k b) m := run_store P w a _ m rfl

theorem Try.info34 : (Try.prog.info? 34).map (fun i => (i.zero, i.size, i.bytes)) = some (some (.float .f64 0), 1, 8) := by kernel_rfl
theorem Try.info35 : (Try.prog.info? 35).map (fun i => (i.zero, i.size, i.bytes)) = some (some (.int .i8 0), 1, 1) := by kernel_rfl
theorem Try.info21 : (Try.prog.info? 21).map (fun i => (i.zero, i.size, i.bytes)) = some (some (.int .i32 0), 1, 4) := by kernel_rfl
theorem Try.info3 : (Try.prog.info? 3).map (fun i => (i.zero, i.size, i.bytes)) = some (some (.int .i64 0), 1, 8) := by kernel_rfl

/-- A slice that may be read: it is empty, or its cells are f 0, f 1, .. -/
def Reads (w : World) (ao : Option Addr) (len : Nat) (f : Nat → Value) : Prop :=
  len = 0 ∨ ∃ b off, ao = some ⟨b, off, none⟩ ∧ b < w.heap.size ∧ ∀ i, i < len → w.cell? ⟨b, off + i, none⟩ = some (f i)

theorem Reads.ofArr {w : World} {b n : Nat} {e : TypeId} {f : Nat → Value} (h : Arr w b n e f) : Reads w (some ⟨b, 0, none⟩) n f :=
  .inr ⟨b, 0, rfl, h.lt, fun i hi => by rw [Nat.zero_add]; exact h.cell hi⟩

theorem Reads.only {w w' : World} {ao : Option Addr} {len : Nat} {f : Nat → Value} (h : Reads w ao len f) (ho : Only [] w w') : Reads w' ao len f := by
  rcases h with h | ⟨b, off, rfl, hb, hc⟩
  · exact .inl h
  · exact .inr ⟨b, off, rfl, Nat.lt_of_lt_of_le hb ho.size, fun i hi => by rw [ho.cell hb (by simp)]; exact hc i hi⟩

/-- What 'make' of F does. -/
theorem run_makeF (w : World) (n : Nat) (hn : n ≤ 4194304) : (Instr.makeSlice 22 (.int .i64 n) (.int .i64 n)).run Try.prog w =
    .ok (.slice (some ⟨w.heap.size, 0, none⟩) n n) (w.alloc (.cells (madeCells #[.float .f64 0] n) 34)) := by
  obtain ⟨i, hi, hz0, hz1, hz2⟩ := info_parts Try.info34
  have h := run_make (P := Try.prog) w 22 34 i (.float .f64 0) Try.underlying22 hi hz0 .i64 .i64 n n (by omega) (by omega) (by rw [hz2]; omega) (by omega)
  rw [hz1] at h
  simpa [Value.cells] using h

set_option maxHeartbeats 400000 in
theorem cloneF_nil (w : World) :
    Calls Try.prog 11 #[.slice none 0 0] w fun e w' => e = .returned (.slice none 0 0) ∧ w' = w := by
  have q : ∀ (w : World) (a : Option Addr) (n c n' c' : Nat), (binOp .eql 22 (.slice a n c) (.slice none n' c')).run Try.prog w = .ok (.bool a.isNone) w := fun w a n c n' c' => Lib.run_eql_slice_nil w _ _ a n c n' c' Try.underlying22
  go_enter Try.func11, Try.ntmps11
  go_wp2
  go_ret
  exact ⟨rfl, rfl⟩

set_option maxHeartbeats 400000 in
theorem cloneF_some (x : Addr) (len cap : Nat) (f : Nat → Nat) (w : World) (hlen : len ≤ 1048576)
    (hr : Reads w (some x) len (fun i => .float .f64 (f i))) :
    Calls Try.prog 11 #[.slice (some x) len cap] w fun e w' => e = .returned (.slice (some ⟨w.heap.size, 0, none⟩) len len) ∧ Arr w' w.heap.size len 34 (fun i => .float .f64 (f i)) ∧ Only [] w w' := by
  have q : ∀ (w : World) (a : Option Addr) (n c n' c' : Nat), (binOp .eql 22 (.slice a n c) (.slice none n' c')).run Try.prog w = .ok (.bool a.isNone) w := fun w a n c n' c' => Lib.run_eql_slice_nil w _ _ a n c n' c' Try.underlying22
  have hmk := run_makeF w len (by omega)
  have hr' : len = 0 ∨ ∃ b off, x = ⟨b, off, none⟩ ∧ b < w.heap.size ∧ ∀ i, i < len → w.cell? ⟨b, off + i, none⟩ = some (.float .f64 (f i)) := by simpa [Reads] using hr
  clear hr
  go_enter Try.func11, Try.ntmps11
  go_wp2
  clear hmk q
  go_loopw [4] (fun i wr => ∃ k : Nat, k ≤ len ∧ i = .int .i64 k ∧ (∃ g : Nat → Nat, Arr wr w.heap.size len 34 (fun i => .float .f64 (g i)) ∧ ∀ j, j < k → g j = f j) ∧ Only [] w wr) (fun i _ => len - (intOf i).toNat)
  case atStart => exact ⟨0, Nat.zero_le _, rfl, ⟨fun _ => 0, Arr.made _ _ _ _ _ (size_madeCells _ _) (fun j hj => madeCells_at _ _ _ hj), fun j hj => by omega⟩, (Only.refl _ _).alloc _⟩
  case round =>
    obtain ⟨k, hk, rfl, ⟨g, hg, hgf⟩, ho⟩ := hrel
    by_cases hlt : k < len
    · rcases hr' with hr' | ⟨b, off, rfl, hb, hc⟩
      · omega
      have hck : wr.cell? ⟨b, off + k, none⟩ = some (.float .f64 (f k)) := (ho.cell hb (by simp)).trans (hc k hlt)
      have hcg := hg.cell hlt
      have hfg := hg.frozen k
      have hg' := hg.set k (.float .f64 (f k))
      have ho' := ho.setCell (p := ⟨w.heap.size, k, none⟩) (fun h => by simp at h) (.float .f64 (f k))
      have HH : Hid (∃ g : Nat → Nat, Arr (wr.setCell ⟨w.heap.size, k, none⟩ (.float .f64 (f k))) w.heap.size len 34 (fun i => .float .f64 (g i)) ∧ ∀ j, j < k + 1 → g j = f j) := by
        refine ⟨upd g k (f k), hg'.congr (fun j hj => ?_), fun j hj => ?_⟩
        · by_cases h : j = k
          · subst h; simp [upd]
          · simp [upd, h]
        · by_cases h : j = k
          · subst h; simp [upd]
          · rw [upd_other _ _ h]; exact hgf j (by omega)
      clear hg' hgf hg ho hc
      go_wp2
      go_roundw
      case rel => exact ⟨k + 1, by omega, by go_num, HH.out, ho'⟩
      case measure => simp [intOf]; omega
    · have hk2 : k = len := by omega
      subst hk2
      go_wp2
      go_ret
      exact ⟨rfl, hg.congr (fun j hj => by rw [hgf j hj]), ho⟩

/-- The copy of whatever slice came in: empty, or a new block. -/
theorem cloneF_any (ao : Option Addr) (len cap : Nat) (f : Nat → Nat) (w : World) (hlen : len ≤ 1048576) (hn : ao = none → len = 0 ∧ cap = 0)
    (hr : Reads w ao len (fun i => .float .f64 (f i))) :
    Calls Try.prog 11 #[.slice ao len cap] w fun e w' => ∃ ao' , e = .returned (.slice ao' len len) ∧ ((ao' = none ∧ len = 0) ∨ ao' = some ⟨w.heap.size, 0, none⟩ ∧ Arr w' w.heap.size len 34 (fun i => .float .f64 (f i))) ∧ Only [] w w' := by
  cases ao with
  | none =>
    obtain ⟨rfl, rfl⟩ := hn rfl
    exact (cloneF_nil w).mono fun e w' ⟨he, hw⟩ => ⟨none, he, .inl ⟨rfl, rfl⟩, hw ▸ Only.refl _ _⟩
  | some x => exact (cloneF_some x len cap f w hlen hr).mono fun e w' ⟨he, ha, ho⟩ => ⟨_, he, .inr ⟨rfl, ha⟩, ho⟩

/-- What 'make' of I8 does. -/
theorem run_makeI8 (w : World) (n : Nat) (hn : n ≤ 4194304) : (Instr.makeSlice 23 (.int .i64 n) (.int .i64 n)).run Try.prog w =
    .ok (.slice (some ⟨w.heap.size, 0, none⟩) n n) (w.alloc (.cells (madeCells #[.int .i8 0] n) 35)) := by
  obtain ⟨i, hi, hz0, hz1, hz2⟩ := info_parts Try.info35
  have h := run_make (P := Try.prog) w 23 35 i (.int .i8 0) Try.underlying23 hi hz0 .i64 .i64 n n (by omega) (by omega) (by rw [hz2]; omega) (by omega)
  rw [hz1] at h
  simpa [Value.cells] using h

set_option maxHeartbeats 400000 in
theorem cloneI8_nil (w : World) :
    Calls Try.prog 12 #[.slice none 0 0] w fun e w' => e = .returned (.slice none 0 0) ∧ w' = w := by
  have q : ∀ (w : World) (a : Option Addr) (n c n' c' : Nat), (binOp .eql 23 (.slice a n c) (.slice none n' c')).run Try.prog w = .ok (.bool a.isNone) w := fun w a n c n' c' => Lib.run_eql_slice_nil w _ _ a n c n' c' Try.underlying23
  go_enter Try.func12, Try.ntmps12
  go_wp2
  go_ret
  exact ⟨rfl, rfl⟩

set_option maxHeartbeats 400000 in
theorem cloneI8_some (x : Addr) (len cap : Nat) (f : Nat → Int) (w : World) (hlen : len ≤ 1048576)
    (hr : Reads w (some x) len (fun i => .int .i8 (f i))) :
    Calls Try.prog 12 #[.slice (some x) len cap] w fun e w' => e = .returned (.slice (some ⟨w.heap.size, 0, none⟩) len len) ∧ Arr w' w.heap.size len 35 (fun i => .int .i8 (f i)) ∧ Only [] w w' := by
  have q : ∀ (w : World) (a : Option Addr) (n c n' c' : Nat), (binOp .eql 23 (.slice a n c) (.slice none n' c')).run Try.prog w = .ok (.bool a.isNone) w := fun w a n c n' c' => Lib.run_eql_slice_nil w _ _ a n c n' c' Try.underlying23
  have hmk := run_makeI8 w len (by omega)
  have hr' : len = 0 ∨ ∃ b off, x = ⟨b, off, none⟩ ∧ b < w.heap.size ∧ ∀ i, i < len → w.cell? ⟨b, off + i, none⟩ = some (.int .i8 (f i)) := by simpa [Reads] using hr
  clear hr
  go_enter Try.func12, Try.ntmps12
  go_wp2
  clear hmk q
  go_loopw [4] (fun i wr => ∃ k : Nat, k ≤ len ∧ i = .int .i64 k ∧ (∃ g : Nat → Int, Arr wr w.heap.size len 35 (fun i => .int .i8 (g i)) ∧ ∀ j, j < k → g j = f j) ∧ Only [] w wr) (fun i _ => len - (intOf i).toNat)
  case atStart => exact ⟨0, Nat.zero_le _, rfl, ⟨fun _ => 0, Arr.made _ _ _ _ _ (size_madeCells _ _) (fun j hj => madeCells_at _ _ _ hj), fun j hj => by omega⟩, (Only.refl _ _).alloc _⟩
  case round =>
    obtain ⟨k, hk, rfl, ⟨g, hg, hgf⟩, ho⟩ := hrel
    by_cases hlt : k < len
    · rcases hr' with hr' | ⟨b, off, rfl, hb, hc⟩
      · omega
      have hck : wr.cell? ⟨b, off + k, none⟩ = some (.int .i8 (f k)) := (ho.cell hb (by simp)).trans (hc k hlt)
      have hcg := hg.cell hlt
      have hfg := hg.frozen k
      have hg' := hg.set k (.int .i8 (f k))
      have ho' := ho.setCell (p := ⟨w.heap.size, k, none⟩) (fun h => by simp at h) (.int .i8 (f k))
      have HH : Hid (∃ g : Nat → Int, Arr (wr.setCell ⟨w.heap.size, k, none⟩ (.int .i8 (f k))) w.heap.size len 35 (fun i => .int .i8 (g i)) ∧ ∀ j, j < k + 1 → g j = f j) := by
        refine ⟨upd g k (f k), hg'.congr (fun j hj => ?_), fun j hj => ?_⟩
        · by_cases h : j = k
          · subst h; simp [upd]
          · simp [upd, h]
        · by_cases h : j = k
          · subst h; simp [upd]
          · rw [upd_other _ _ h]; exact hgf j (by omega)
      clear hg' hgf hg ho hc
      go_wp2
      go_roundw
      case rel => exact ⟨k + 1, by omega, by go_num, HH.out, ho'⟩
      case measure => simp [intOf]; omega
    · have hk2 : k = len := by omega
      subst hk2
      go_wp2
      go_ret
      exact ⟨rfl, hg.congr (fun j hj => by rw [hgf j hj]), ho⟩

/-- The copy of whatever slice came in: empty, or a new block. -/
theorem cloneI8_any (ao : Option Addr) (len cap : Nat) (f : Nat → Int) (w : World) (hlen : len ≤ 1048576) (hn : ao = none → len = 0 ∧ cap = 0)
    (hr : Reads w ao len (fun i => .int .i8 (f i))) :
    Calls Try.prog 12 #[.slice ao len cap] w fun e w' => ∃ ao' , e = .returned (.slice ao' len len) ∧ ((ao' = none ∧ len = 0) ∨ ao' = some ⟨w.heap.size, 0, none⟩ ∧ Arr w' w.heap.size len 35 (fun i => .int .i8 (f i))) ∧ Only [] w w' := by
  cases ao with
  | none =>
    obtain ⟨rfl, rfl⟩ := hn rfl
    exact (cloneI8_nil w).mono fun e w' ⟨he, hw⟩ => ⟨none, he, .inl ⟨rfl, rfl⟩, hw ▸ Only.refl _ _⟩
  | some x => exact (cloneI8_some x len cap f w hlen hr).mono fun e w' ⟨he, ha, ho⟩ => ⟨_, he, .inr ⟨rfl, ha⟩, ho⟩

/-- What 'make' of I32 does. -/
theorem run_makeI32 (w : World) (n : Nat) (hn : n ≤ 4194304) : (Instr.makeSlice 24 (.int .i64 n) (.int .i64 n)).run Try.prog w =
    .ok (.slice (some ⟨w.heap.size, 0, none⟩) n n) (w.alloc (.cells (madeCells #[.int .i32 0] n) 21)) := by
  obtain ⟨i, hi, hz0, hz1, hz2⟩ := info_parts Try.info21
  have h := run_make (P := Try.prog) w 24 21 i (.int .i32 0) Try.underlying24 hi hz0 .i64 .i64 n n (by omega) (by omega) (by rw [hz2]; omega) (by omega)
  rw [hz1] at h
  simpa [Value.cells] using h

set_option maxHeartbeats 400000 in
theorem cloneI32_nil (w : World) :
    Calls Try.prog 13 #[.slice none 0 0] w fun e w' => e = .returned (.slice none 0 0) ∧ w' = w := by
  have q : ∀ (w : World) (a : Option Addr) (n c n' c' : Nat), (binOp .eql 24 (.slice a n c) (.slice none n' c')).run Try.prog w = .ok (.bool a.isNone) w := fun w a n c n' c' => Lib.run_eql_slice_nil w _ _ a n c n' c' Try.underlying24
  go_enter Try.func13, Try.ntmps13
  go_wp2
  go_ret
  exact ⟨rfl, rfl⟩

set_option maxHeartbeats 400000 in
theorem cloneI32_some (x : Addr) (len cap : Nat) (f : Nat → Int) (w : World) (hlen : len ≤ 1048576)
    (hr : Reads w (some x) len (fun i => .int .i32 (f i))) :
    Calls Try.prog 13 #[.slice (some x) len cap] w fun e w' => e = .returned (.slice (some ⟨w.heap.size, 0, none⟩) len len) ∧ Arr w' w.heap.size len 21 (fun i => .int .i32 (f i)) ∧ Only [] w w' := by
  have q : ∀ (w : World) (a : Option Addr) (n c n' c' : Nat), (binOp .eql 24 (.slice a n c) (.slice none n' c')).run Try.prog w = .ok (.bool a.isNone) w := fun w a n c n' c' => Lib.run_eql_slice_nil w _ _ a n c n' c' Try.underlying24
  have hmk := run_makeI32 w len (by omega)
  have hr' : len = 0 ∨ ∃ b off, x = ⟨b, off, none⟩ ∧ b < w.heap.size ∧ ∀ i, i < len → w.cell? ⟨b, off + i, none⟩ = some (.int .i32 (f i)) := by simpa [Reads] using hr
  clear hr
  go_enter Try.func13, Try.ntmps13
  go_wp2
  clear hmk q
  go_loopw [4] (fun i wr => ∃ k : Nat, k ≤ len ∧ i = .int .i64 k ∧ (∃ g : Nat → Int, Arr wr w.heap.size len 21 (fun i => .int .i32 (g i)) ∧ ∀ j, j < k → g j = f j) ∧ Only [] w wr) (fun i _ => len - (intOf i).toNat)
  case atStart => exact ⟨0, Nat.zero_le _, rfl, ⟨fun _ => 0, Arr.made _ _ _ _ _ (size_madeCells _ _) (fun j hj => madeCells_at _ _ _ hj), fun j hj => by omega⟩, (Only.refl _ _).alloc _⟩
  case round =>
    obtain ⟨k, hk, rfl, ⟨g, hg, hgf⟩, ho⟩ := hrel
    by_cases hlt : k < len
    · rcases hr' with hr' | ⟨b, off, rfl, hb, hc⟩
      · omega
      have hck : wr.cell? ⟨b, off + k, none⟩ = some (.int .i32 (f k)) := (ho.cell hb (by simp)).trans (hc k hlt)
      have hcg := hg.cell hlt
      have hfg := hg.frozen k
      have hg' := hg.set k (.int .i32 (f k))
      have ho' := ho.setCell (p := ⟨w.heap.size, k, none⟩) (fun h => by simp at h) (.int .i32 (f k))
      have HH : Hid (∃ g : Nat → Int, Arr (wr.setCell ⟨w.heap.size, k, none⟩ (.int .i32 (f k))) w.heap.size len 21 (fun i => .int .i32 (g i)) ∧ ∀ j, j < k + 1 → g j = f j) := by
        refine ⟨upd g k (f k), hg'.congr (fun j hj => ?_), fun j hj => ?_⟩
        · by_cases h : j = k
          · subst h; simp [upd]
          · simp [upd, h]
        · by_cases h : j = k
          · subst h; simp [upd]
          · rw [upd_other _ _ h]; exact hgf j (by omega)
      clear hg' hgf hg ho hc
      go_wp2
      go_roundw
      case rel => exact ⟨k + 1, by omega, by go_num, HH.out, ho'⟩
      case measure => simp [intOf]; omega
    · have hk2 : k = len := by omega
      subst hk2
      go_wp2
      go_ret
      exact ⟨rfl, hg.congr (fun j hj => by rw [hgf j hj]), ho⟩

/-- The copy of whatever slice came in: empty, or a new block. -/
theorem cloneI32_any (ao : Option Addr) (len cap : Nat) (f : Nat → Int) (w : World) (hlen : len ≤ 1048576) (hn : ao = none → len = 0 ∧ cap = 0)
    (hr : Reads w ao len (fun i => .int .i32 (f i))) :
    Calls Try.prog 13 #[.slice ao len cap] w fun e w' => ∃ ao' , e = .returned (.slice ao' len len) ∧ ((ao' = none ∧ len = 0) ∨ ao' = some ⟨w.heap.size, 0, none⟩ ∧ Arr w' w.heap.size len 21 (fun i => .int .i32 (f i))) ∧ Only [] w w' := by
  cases ao with
  | none =>
    obtain ⟨rfl, rfl⟩ := hn rfl
    exact (cloneI32_nil w).mono fun e w' ⟨he, hw⟩ => ⟨none, he, .inl ⟨rfl, rfl⟩, hw ▸ Only.refl _ _⟩
  | some x => exact (cloneI32_some x len cap f w hlen hr).mono fun e w' ⟨he, ha, ho⟩ => ⟨_, he, .inr ⟨rfl, ha⟩, ho⟩

/-- What 'make' of Int does. -/
theorem run_makeInt (w : World) (n : Nat) (hn : n ≤ 4194304) : (Instr.makeSlice 25 (.int .i64 n) (.int .i64 n)).run Try.prog w =
    .ok (.slice (some ⟨w.heap.size, 0, none⟩) n n) (w.alloc (.cells (madeCells #[.int .i64 0] n) 3)) := by
  obtain ⟨i, hi, hz0, hz1, hz2⟩ := info_parts Try.info3
  have h := run_make (P := Try.prog) w 25 3 i (.int .i64 0) Try.underlying25 hi hz0 .i64 .i64 n n (by omega) (by omega) (by rw [hz2]; omega) (by omega)
  rw [hz1] at h
  simpa [Value.cells] using h

set_option maxHeartbeats 400000 in
theorem cloneInt_nil (w : World) :
    Calls Try.prog 14 #[.slice none 0 0] w fun e w' => e = .returned (.slice none 0 0) ∧ w' = w := by
  have q : ∀ (w : World) (a : Option Addr) (n c n' c' : Nat), (binOp .eql 25 (.slice a n c) (.slice none n' c')).run Try.prog w = .ok (.bool a.isNone) w := fun w a n c n' c' => Lib.run_eql_slice_nil w _ _ a n c n' c' Try.underlying25
  go_enter Try.func14, Try.ntmps14
  go_wp2
  go_ret
  exact ⟨rfl, rfl⟩

set_option maxHeartbeats 400000 in
theorem cloneInt_some (x : Addr) (len cap : Nat) (f : Nat → Int) (w : World) (hlen : len ≤ 1048576)
    (hr : Reads w (some x) len (fun i => .int .i64 (f i))) :
    Calls Try.prog 14 #[.slice (some x) len cap] w fun e w' => e = .returned (.slice (some ⟨w.heap.size, 0, none⟩) len len) ∧ Arr w' w.heap.size len 3 (fun i => .int .i64 (f i)) ∧ Only [] w w' := by
  have q : ∀ (w : World) (a : Option Addr) (n c n' c' : Nat), (binOp .eql 25 (.slice a n c) (.slice none n' c')).run Try.prog w = .ok (.bool a.isNone) w := fun w a n c n' c' => Lib.run_eql_slice_nil w _ _ a n c n' c' Try.underlying25
  have hmk := run_makeInt w len (by omega)
  have hr' : len = 0 ∨ ∃ b off, x = ⟨b, off, none⟩ ∧ b < w.heap.size ∧ ∀ i, i < len → w.cell? ⟨b, off + i, none⟩ = some (.int .i64 (f i)) := by simpa [Reads] using hr
  clear hr
  go_enter Try.func14, Try.ntmps14
  go_wp2
  clear hmk q
  go_loopw [4] (fun i wr => ∃ k : Nat, k ≤ len ∧ i = .int .i64 k ∧ (∃ g : Nat → Int, Arr wr w.heap.size len 3 (fun i => .int .i64 (g i)) ∧ ∀ j, j < k → g j = f j) ∧ Only [] w wr) (fun i _ => len - (intOf i).toNat)
  case atStart => exact ⟨0, Nat.zero_le _, rfl, ⟨fun _ => 0, Arr.made _ _ _ _ _ (size_madeCells _ _) (fun j hj => madeCells_at _ _ _ hj), fun j hj => by omega⟩, (Only.refl _ _).alloc _⟩
  case round =>
    obtain ⟨k, hk, rfl, ⟨g, hg, hgf⟩, ho⟩ := hrel
    by_cases hlt : k < len
    · rcases hr' with hr' | ⟨b, off, rfl, hb, hc⟩
      · omega
      have hck : wr.cell? ⟨b, off + k, none⟩ = some (.int .i64 (f k)) := (ho.cell hb (by simp)).trans (hc k hlt)
      have hcg := hg.cell hlt
      have hfg := hg.frozen k
      have hg' := hg.set k (.int .i64 (f k))
      have ho' := ho.setCell (p := ⟨w.heap.size, k, none⟩) (fun h => by simp at h) (.int .i64 (f k))
      have HH : Hid (∃ g : Nat → Int, Arr (wr.setCell ⟨w.heap.size, k, none⟩ (.int .i64 (f k))) w.heap.size len 3 (fun i => .int .i64 (g i)) ∧ ∀ j, j < k + 1 → g j = f j) := by
        refine ⟨upd g k (f k), hg'.congr (fun j hj => ?_), fun j hj => ?_⟩
        · by_cases h : j = k
          · subst h; simp [upd]
          · simp [upd, h]
        · by_cases h : j = k
          · subst h; simp [upd]
          · rw [upd_other _ _ h]; exact hgf j (by omega)
      clear hg' hgf hg ho hc
      go_wp2
      go_roundw
      case rel => exact ⟨k + 1, by omega, by go_num, HH.out, ho'⟩
      case measure => simp [intOf]; omega
    · have hk2 : k = len := by omega
      subst hk2
      go_wp2
      go_ret
      exact ⟨rfl, hg.congr (fun j hj => by rw [hgf j hj]), ho⟩

/-- The copy of whatever slice came in: empty, or a new block. -/
theorem cloneInt_any (ao : Option Addr) (len cap : Nat) (f : Nat → Int) (w : World) (hlen : len ≤ 1048576) (hn : ao = none → len = 0 ∧ cap = 0)
    (hr : Reads w ao len (fun i => .int .i64 (f i))) :
    Calls Try.prog 14 #[.slice ao len cap] w fun e w' => ∃ ao' , e = .returned (.slice ao' len len) ∧ ((ao' = none ∧ len = 0) ∨ ao' = some ⟨w.heap.size, 0, none⟩ ∧ Arr w' w.heap.size len 3 (fun i => .int .i64 (f i))) ∧ Only [] w w' := by
  cases ao with
  | none =>
    obtain ⟨rfl, rfl⟩ := hn rfl
    exact (cloneInt_nil w).mono fun e w' ⟨he, hw⟩ => ⟨none, he, .inl ⟨rfl, rfl⟩, hw ▸ Only.refl _ _⟩
  | some x => exact (cloneInt_some x len cap f w hlen hr).mono fun e w' ⟨he, ha, ho⟩ => ⟨_, he, .inr ⟨rfl, ha⟩, ho⟩

end Go.Proofs.Qxb6601548a
