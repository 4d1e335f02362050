/- The small functions: copies, counts. -/
import Derived.Test.Qxb6600671aRows
import Derived.Test.Qxb6600671aMem
import Derived.Lib.SliceRun
import Derived.BigQuiet
namespace Go.Proofs.Qxb6600671a
open Go.RowKit

theorem Try.info3 : (Try.prog.info? 3).map (fun i => (i.zero, i.size, i.bytes)) = some (some (.int .i64 0), 1, 8) := by kernel_rfl
theorem Try.info4 : (Try.prog.info? 4).map (fun i => (i.zero, i.size, i.bytes)) = some (some (.bool false), 1, 1) := by kernel_rfl

/-- A slice that may be read: it is empty, or its cells are f 0, f 1, .. -/
def Reads (w : World) (ao : Option Addr) (len : Nat) (f : Nat → Value) : Prop :=
  len = 0 ∨ ∃ b off, ao = some ⟨b, off, none⟩ ∧ b < w.heap.size ∧ ∀ i, i < len → w.cell? ⟨b, off + i, none⟩ = some (f i)

theorem Reads.ofArr {w : World} {b n : Nat} {e : TypeId} {f : Nat → Value} (h : Arr w b n e f) : Reads w (some ⟨b, 0, none⟩) n f :=
  .inr ⟨b, 0, rfl, h.lt, fun i hi => by rw [Nat.zero_add]; exact h.cell hi⟩

theorem Reads.only {w w' : World} {ao : Option Addr} {len : Nat} {f : Nat → Value} (h : Reads w ao len f) (ho : Only [] w w') : Reads w' ao len f := by
  rcases h with h | ⟨b, off, rfl, hb, hc⟩
  · exact .inl h
  · exact .inr ⟨b, off, rfl, Nat.lt_of_lt_of_le hb ho.size, fun i hi => by rw [ho.cell hb (by simp)]; exact hc i hi⟩

/-- What 'make([]int, n)' does. -/
theorem run_makeInts (w : World) (n : Nat) (hn : n ≤ 4194304) : (Instr.makeSlice 22 (.int .i64 n) (.int .i64 n)).run Try.prog w =
    .ok (.slice (some ⟨w.heap.size, 0, none⟩) n n) (w.alloc (.cells (madeCells #[.int .i64 0] n) 3)) := by
  obtain ⟨i, hi, hz0, hz1, hz2⟩ := info_parts Try.info3
  have h := run_make (P := Try.prog) w 22 3 i (.int .i64 0) Try.underlying22 hi hz0 .i64 .i64 n n (by omega) (by omega) (by rw [hz2]; omega) (by omega)
  rw [hz1] at h
  simpa [Value.cells] using h

theorem run_makeBools (w : World) (n : Nat) (hn : n ≤ 4194304) : (Instr.makeSlice 25 (.int .i64 n) (.int .i64 n)).run Try.prog w =
    .ok (.slice (some ⟨w.heap.size, 0, none⟩) n n) (w.alloc (.cells (madeCells #[.bool false] n) 4)) := by
  obtain ⟨i, hi, hz0, hz1, hz2⟩ := info_parts Try.info4
  have h := run_make (P := Try.prog) w 25 4 i (.bool false) Try.underlying25 hi hz0 .i64 .i64 n n (by omega) (by omega) (by rw [hz2]; omega) (by omega)
  rw [hz1] at h
  simpa [Value.cells] using h

set_option maxHeartbeats 400000 in
theorem cloneInts_nil (w : World) :
    Calls Try.prog 12 #[.slice none 0 0] w fun e w' => e = .returned (.slice none 0 0) ∧ w' = w := by
  have q : ∀ (w : World) (a : Option Addr) (n c n' c' : Nat), (binOp .eql 22 (.slice a n c) (.slice none n' c')).run Try.prog w = .ok (.bool a.isNone) w := fun w a n c n' c' => Lib.run_eql_slice_nil w _ _ a n c n' c' Try.underlying22
  go_enter Try.func12, Try.ntmps12
  go_wp2
  go_ret
  exact ⟨rfl, rfl⟩

set_option maxHeartbeats 400000 in
theorem cloneInts_some (x : Addr) (len cap : Nat) (f : Nat → Int) (w : World) (hlen : len ≤ 1048576)
    (hr : Reads w (some x) len (fun i => .int .i64 (f i))) :
    Calls Try.prog 12 #[.slice (some x) len cap] w fun e w' => e = .returned (.slice (some ⟨w.heap.size, 0, none⟩) len len) ∧ Arr w' w.heap.size len 3 (fun i => .int .i64 (f i)) ∧ Only [] w w' := by
  have q : ∀ (w : World) (a : Option Addr) (n c n' c' : Nat), (binOp .eql 22 (.slice a n c) (.slice none n' c')).run Try.prog w = .ok (.bool a.isNone) w := fun w a n c n' c' => Lib.run_eql_slice_nil w _ _ a n c n' c' Try.underlying22
  have hmk := run_makeInts w len (by omega)
  have hr' : len = 0 ∨ ∃ b off, x = ⟨b, off, none⟩ ∧ b < w.heap.size ∧ ∀ i, i < len → w.cell? ⟨b, off + i, none⟩ = some (.int .i64 (f i)) := by simpa [Reads] using hr
  clear hr
  go_enter Try.func12, Try.ntmps12
  go_wp2
  clear hmk q
  go_loopw [4] (fun i wr => ∃ k : Nat, k ≤ len ∧ i = .int .i64 k ∧ (∃ g : Nat → Int, Arr wr w.heap.size len 3 (fun i => .int .i64 (g i)) ∧ ∀ j, j < k → g j = f j) ∧ Only [] w wr) (fun i _ => len - (intOf i).toNat)
  case atStart => exact ⟨0, Nat.zero_le _, rfl, ⟨fun _ => 0, Arr.made _ _ _ _ _ (size_madeCells _ _) (fun j hj => madeCells_at _ _ _ hj), fun j hj => by omega⟩, (Only.refl _ _).alloc _⟩
  case round =>
    obtain ⟨k, hk, rfl, ⟨g, hg, hgf⟩, ho⟩ := hrel
    by_cases hlt : k < len
    · rcases hr' with hr' | ⟨b, off, rfl, hb, hc⟩
      · omega
      have hck : wr.cell? ⟨b, off + k, none⟩ = some (.int .i64 (f k)) := (ho.cell hb (by simp)).trans (hc k hlt)
      have hcg := hg.cell hlt
      have hfg := hg.frozen k
      have hg' := hg.set k (.int .i64 (f k))
      have ho' := ho.setCell (p := ⟨w.heap.size, k, none⟩) (fun h => by simp at h) (.int .i64 (f k))
      have HH : Hid (∃ g : Nat → Int, Arr (wr.setCell ⟨w.heap.size, k, none⟩ (.int .i64 (f k))) w.heap.size len 3 (fun i => .int .i64 (g i)) ∧ ∀ j, j < k + 1 → g j = f j) := by
        refine ⟨upd g k (f k), hg'.congr (fun j hj => ?_), fun j hj => ?_⟩
        · by_cases h : j = k
          · subst h; simp [upd]
          · simp [upd, h]
        · by_cases h : j = k
          · subst h; simp [upd]
          · rw [upd_other _ _ h]; exact hgf j (by omega)
      clear hg' hgf hg ho hc
      go_wp2
      go_roundw
      case rel => exact ⟨k + 1, by omega, by go_num, HH.out, ho'⟩
      case measure => simp [intOf]; omega
    · have hk2 : k = len := by omega
      subst hk2
      go_wp2
      go_ret
      exact ⟨rfl, hg.congr (fun j hj => by rw [hgf j hj]), ho⟩

/-- The copy of whatever slice came in: empty, or a new block. -/
theorem cloneInts_any (ao : Option Addr) (len cap : Nat) (f : Nat → Int) (w : World) (hlen : len ≤ 1048576) (hn : ao = none → len = 0 ∧ cap = 0)
    (hr : Reads w ao len (fun i => .int .i64 (f i))) :
    Calls Try.prog 12 #[.slice ao len cap] w fun e w' => ∃ ao' , e = .returned (.slice ao' len len) ∧ (len = 0 ∨ ao' = some ⟨w.heap.size, 0, none⟩ ∧ Arr w' w.heap.size len 3 (fun i => .int .i64 (f i))) ∧ Only [] w w' := by
  cases ao with
  | none =>
    obtain ⟨rfl, rfl⟩ := hn rfl
    exact (cloneInts_nil w).mono fun e w' ⟨he, hw⟩ => ⟨none, he, .inl rfl, hw ▸ Only.refl _ _⟩
  | some x => exact (cloneInts_some x len cap f w hlen hr).mono fun e w' ⟨he, ha, ho⟩ => ⟨_, he, .inr ⟨rfl, ha⟩, ho⟩

set_option maxHeartbeats 400000 in
theorem cloneBools_nil (w : World) :
    Calls Try.prog 26 #[.slice none 0 0] w fun e w' => e = .returned (.slice none 0 0) ∧ w' = w := by
  have q : ∀ (w : World) (a : Option Addr) (n c n' c' : Nat), (binOp .eql 25 (.slice a n c) (.slice none n' c')).run Try.prog w = .ok (.bool a.isNone) w := fun w a n c n' c' => Lib.run_eql_slice_nil w _ _ a n c n' c' Try.underlying25
  go_enter Try.func26, Try.ntmps26
  go_wp2
  go_ret
  exact ⟨rfl, rfl⟩

set_option maxHeartbeats 400000 in
theorem cloneBools_some (x : Addr) (len cap : Nat) (f : Nat → Bool) (w : World) (hlen : len ≤ 1048576)
    (hr : Reads w (some x) len (fun i => .bool (f i))) :
    Calls Try.prog 26 #[.slice (some x) len cap] w fun e w' => e = .returned (.slice (some ⟨w.heap.size, 0, none⟩) len len) ∧ Arr w' w.heap.size len 4 (fun i => .bool (f i)) ∧ Only [] w w' := by
  have q : ∀ (w : World) (a : Option Addr) (n c n' c' : Nat), (binOp .eql 25 (.slice a n c) (.slice none n' c')).run Try.prog w = .ok (.bool a.isNone) w := fun w a n c n' c' => Lib.run_eql_slice_nil w _ _ a n c n' c' Try.underlying25
  have hmk := run_makeBools w len (by omega)
  have hr' : len = 0 ∨ ∃ b off, x = ⟨b, off, none⟩ ∧ b < w.heap.size ∧ ∀ i, i < len → w.cell? ⟨b, off + i, none⟩ = some (.bool (f i)) := by simpa [Reads] using hr
  clear hr
  go_enter Try.func26, Try.ntmps26
  go_wp2
  clear hmk q
  go_loopw [4] (fun i wr => ∃ k : Nat, k ≤ len ∧ i = .int .i64 k ∧ (∃ g : Nat → Bool, Arr wr w.heap.size len 4 (fun i => .bool (g i)) ∧ ∀ j, j < k → g j = f j) ∧ Only [] w wr) (fun i _ => len - (intOf i).toNat)
  case atStart => exact ⟨0, Nat.zero_le _, rfl, ⟨fun _ => false, Arr.made _ _ _ _ _ (size_madeCells _ _) (fun j hj => madeCells_at _ _ _ hj), fun j hj => by omega⟩, (Only.refl _ _).alloc _⟩
  case round =>
    obtain ⟨k, hk, rfl, ⟨g, hg, hgf⟩, ho⟩ := hrel
    by_cases hlt : k < len
    · rcases hr' with hr' | ⟨b, off, rfl, hb, hc⟩
      · omega
      have hck : wr.cell? ⟨b, off + k, none⟩ = some (.bool (f k)) := (ho.cell hb (by simp)).trans (hc k hlt)
      have hcg := hg.cell hlt
      have hfg := hg.frozen k
      have hg' := hg.set k (.bool (f k))
      have ho' := ho.setCell (p := ⟨w.heap.size, k, none⟩) (fun h => by simp at h) (.bool (f k))
      have HH : Hid (∃ g : Nat → Bool, Arr (wr.setCell ⟨w.heap.size, k, none⟩ (.bool (f k))) w.heap.size len 4 (fun i => .bool (g i)) ∧ ∀ j, j < k + 1 → g j = f j) := by
        refine ⟨upd g k (f k), hg'.congr (fun j hj => ?_), fun j hj => ?_⟩
        · by_cases h : j = k
          · subst h; simp [upd]
          · simp [upd, h]
        · by_cases h : j = k
          · subst h; simp [upd]
          · rw [upd_other _ _ h]; exact hgf j (by omega)
      clear hg' hgf hg ho hc
      go_wp2
      go_roundw
      case rel => exact ⟨k + 1, by omega, by go_num, HH.out, ho'⟩
      case measure => simp [intOf]; omega
    · have hk2 : k = len := by omega
      subst hk2
      go_wp2
      go_ret
      exact ⟨rfl, hg.congr (fun j hj => by rw [hgf j hj]), ho⟩

/-- The copy of whatever slice came in: empty, or a new block. -/
theorem cloneBools_any (ao : Option Addr) (len cap : Nat) (f : Nat → Bool) (w : World) (hlen : len ≤ 1048576) (hn : ao = none → len = 0 ∧ cap = 0)
    (hr : Reads w ao len (fun i => .bool (f i))) :
    Calls Try.prog 26 #[.slice ao len cap] w fun e w' => ∃ ao' , e = .returned (.slice ao' len len) ∧ (len = 0 ∨ ao' = some ⟨w.heap.size, 0, none⟩ ∧ Arr w' w.heap.size len 4 (fun i => .bool (f i))) ∧ Only [] w w' := by
  cases ao with
  | none =>
    obtain ⟨rfl, rfl⟩ := hn rfl
    exact (cloneBools_nil w).mono fun e w' ⟨he, hw⟩ => ⟨none, he, .inl rfl, hw ▸ Only.refl _ _⟩
  | some x => exact (cloneBools_some x len cap f w hlen hr).mono fun e w' ⟨he, ha, ho⟩ => ⟨_, he, .inr ⟨rfl, ha⟩, ho⟩

/-- The number of trues among the first k. -/
def cntT (f : Nat → Bool) : Nat → Nat
  | 0 => 0
  | k + 1 => cntT f k + (if f k then 1 else 0)

theorem cntT_le (f : Nat → Bool) (k : Nat) : cntT f k ≤ k := by
  induction k with
  | zero => simp [cntT]
  | succ k ih => simp only [cntT]; split <;> omega

set_option maxHeartbeats 400000 in
theorem countTrue_some (b off len cap : Nat) (f : Nat → Bool) (w : World) (hlen : len ≤ 1048576)
    (hc : ∀ i, i < len → w.cell? ⟨b, off + i, none⟩ = some (.bool (f i))) :
    Calls Try.prog 15 #[.slice (some ⟨b, off, none⟩) len cap] w fun e w' => e = .returned (.int .i64 (cntT f len)) ∧ w' = w := by
  go_enter Try.func15, Try.ntmps15
  go_wp2
  go_loop [3, 4] (fun c i => ∃ k : Nat, k ≤ len ∧ i = .int .i64 k ∧ c = .int .i64 (cntT f k)) (fun _ i => len - (intOf i).toNat)
  case atStart => exact ⟨0, Nat.zero_le _, rfl, rfl⟩
  case round =>
    obtain ⟨k, hk, rfl, rfl⟩ := hrel
    have hle := cntT_le f k
    by_cases hlt : k < len
    · have hck := hc k hlt
      clear hc
      cases hf : f k
      · rw [hf] at hck
        have HS : Hid (cntT f (k + 1) = cntT f k) := by simp [Hid, cntT, hf]
        clear hf
        go_wp2
        go_round
        case rel => exact ⟨k + 1, by omega, by go_num, by rw [HS.out]⟩
        case measure => simp [intOf]; omega
      · rw [hf] at hck
        have HS : Hid (cntT f (k + 1) = cntT f k + 1) := by simp [Hid, cntT, hf]
        clear hf
        go_wp2
        go_round
        case rel => exact ⟨k + 1, by omega, by go_num, by rw [HS.out]; go_num⟩
        case measure => simp [intOf]; omega
    · have hk2 : k = len := by omega
      subst hk2
      go_wp2
      go_ret
      exact ⟨rfl, rfl⟩

set_option maxHeartbeats 400000 in
theorem countTrue_empty (ao : Option Addr) (cap : Nat) (f : Nat → Bool) (w : World) :
    Calls Try.prog 15 #[.slice ao 0 cap] w fun e w' => e = .returned (.int .i64 (cntT f 0)) ∧ w' = w := by
  go_enter Try.func15, Try.ntmps15
  go_wp2
  go_loop [3, 4] (fun c i => i = .int .i64 0 ∧ c = .int .i64 0) (fun _ i => 0)
  case atStart => exact ⟨rfl, rfl⟩
  case round =>
    obtain ⟨rfl, rfl⟩ := hrel
    go_wp2
    go_ret
    exact ⟨rfl, rfl⟩

theorem countTrue_any (ao : Option Addr) (len cap : Nat) (f : Nat → Bool) (w : World) (hlen : len ≤ 1048576) (hr : Reads w ao len (fun i => .bool (f i))) :
    Calls Try.prog 15 #[.slice ao len cap] w fun e w' => e = .returned (.int .i64 (cntT f len)) ∧ w' = w := by
  rcases hr with rfl | ⟨b, off, rfl, _, hc⟩
  · exact countTrue_empty ao cap f w
  · exact countTrue_some b off len cap f w hlen hc

set_option maxHeartbeats 400000 in
theorem countFalse_any (ao : Option Addr) (len cap : Nat) (f : Nat → Bool) (w : World) (hlen : len ≤ 1048576) (hr : Reads w ao len (fun i => .bool (f i))) :
    Calls Try.prog 25 #[.slice ao len cap] w fun e w' => e = .returned (.int .i64 ((len - cntT f len : Nat) : Int)) ∧ w' = w := by
  have hle := cntT_le f len
  go_enter Try.func25, Try.ntmps25
  go_wp2_with (go_at_call 15; refine (countTrue_any ao len cap f _ hlen hr).mono ?_; rintro e w' ⟨rfl, rfl⟩)
  go_ret
  exact ⟨ret_int (by omega), rfl⟩

set_option maxHeartbeats 400000 in
theorem bytes32 (a0 a1 : Option Addr) (l0 c0 l1 c1 : Nat) (w : World) (h0 : l0 ≤ 9223372036854775807) (h1 : l1 ≤ 9223372036854775807) :
    Calls Try.prog 32 #[.slice a0 l0 c0, .slice a1 l1 c1] w fun e w' => ∃ r : Bool, e = .returned (.bool r) ∧ w' = w ∧ (r = true → l0 + l1 ≤ 1048576) := by
  go_enter Try.func32, Try.ntmps32
  go_wp2
  all_goals
    go_ret
    refine ⟨_, rfl, rfl, ?_⟩
    first | (intro _; omega) | (intro h; simp at h)

end Go.Proofs.Qxb6600671a
