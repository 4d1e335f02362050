/- zzSortStrings: its memory. -/
import Derived.Test.Qxb6600815aSmall
import Derived.Laws.CopyRow
import Derived.Laws.IdiomCopy
namespace Go.Proofs.Qxb6600815a
open Go.RowKit

theorem Try.info9 : (Try.prog.info? 9).map (fun i => (i.zero, i.size, i.bytes)) = some (some (.string ByteArray.empty), 1, 16) := by kernel_rfl
theorem Try.size9 : (Try.prog.info? 9).map (·.size) = some 1 := by kernel_rfl

theorem addr_add (b o i : Nat) : (⟨b, o, none⟩ : Addr).add i = ⟨b, o + i, none⟩ := by unfold Addr.add; split <;> simp_all

theorem run_makeStrs (w : World) (n : Nat) (hn : n ≤ 4194304) : (Instr.makeSlice 22 (.int .i64 n) (.int .i64 n)).run Try.prog w =
    .ok (.slice (some ⟨w.heap.size, 0, none⟩) n n) (w.alloc (.cells (madeCells #[.string ByteArray.empty] n) 9)) := by
  obtain ⟨i, hi, hz0, hz1, hz2⟩ := info_parts Try.info9
  have h := run_make (P := Try.prog) w 22 9 i (.string ByteArray.empty) Try.underlying22 hi hz0 .i64 .i64 n n (by omega) (by omega) (by rw [hz2]; omega) (by omega)
  rw [hz1] at h
  simpa [Value.cells] using h

theorem run_copyStrs (w : World) (ao : Option Addr) (n c : Nat) (f : Nat → ByteArray) (hr : Reads w ao n (fun i => .string (f i))) :
    ∃ w1, (∀ ty, (Builtin.copy_ #[22, 22] ty #[.slice (some ⟨w.heap.size, 0, none⟩) n n, .slice ao n c]).run Try.prog (w.alloc (.cells (madeCells #[.string ByteArray.empty] n) 9)) = .ok (goInt n) w1) ∧
      Arr w1 w.heap.size n 9 (fun i => .string (f i)) ∧ Only [] w w1 ∧ w1.heap.size = w.heap.size + 1 := by
  have hM := Arr.made w 9 (madeCells #[.string ByteArray.empty] n) n (fun _ => .string ByteArray.empty) (size_madeCells _ _) (fun j hj => madeCells_at _ _ _ hj)
  rcases hr with h0 | ⟨b, off, rfl, hb, hc⟩
  · subst h0
    refine ⟨_, fun ty => run_copy_none _ 22 22 ty 9 _ _ 0 0 0 c Try.underlying22 Try.size9 rfl, hM.congr (fun j hj => by omega), (Only.refl _ _).alloc _, by simp⟩
  · obtain ⟨cur, hg, hs, hcur⟩ := hM
    have hlen : ((List.range n).map (fun i => Value.string (f i))).length = n := by simp
    have hrun := fun ty => run_copy_row (P := Try.prog) (w.alloc (.cells (madeCells #[.string ByteArray.empty] n) 9)) 22 22 ty 9 w.heap.size 0 n n ⟨b, off, none⟩ n c cur 9 ((List.range n).map (fun i => Value.string (f i))) Try.underlying22 Try.size9 hg (by rw [hlen]; simp) (fun j v hv => by
      have hj : j < n := by
        rcases Nat.lt_or_ge j n with h | h
        · exact h
        · rw [List.getElem?_eq_none (by rw [hlen]; exact h)] at hv; cases hv
      rw [addr_add]
      rw [World.cell?_of_block (w := w) (Below.heap_alloc _ _ _ hb), hc j hj]
      simpa [hj] using hv) (by rw [hlen, hs]; omega) (fun v hv => by
        rw [List.mem_map] at hv
        obtain ⟨i, -, rfl⟩ := hv
        rfl)
    rw [hlen] at hrun
    refine ⟨_, hrun, ?_, ?_, by simp⟩
    · refine ⟨_, setRow_heap _ _ _ _ _ _ hg, ?_, fun j hj => ?_⟩
      · simp [hs]
      · simp [hs, hj]
    · exact ⟨rfl, rfl, rfl, by simp [World.setRow], fun k hk _ => (setRow_other _ _ _ _ (by omega)).trans (Below.heap_alloc _ _ _ hk)⟩

end Go.Proofs.Qxb6600815a
