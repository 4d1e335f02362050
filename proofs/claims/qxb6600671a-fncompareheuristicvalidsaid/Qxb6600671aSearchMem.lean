/- '(*search)': its memory, and the two closures of 'split'. -/
import Derived.Test.Qxb6600671aSmall
namespace Go.Proofs.Qxb6600671a
open Go.RowKit

/-- A 'search' in block bs: the texts a and b (N and M lines), the marks, the two rows of diagonals, 'off', 'costBound'. -/
structure SMem (w : World) (bs : Nat) (ao bo : Option Addr) (vd vi : Value) (bf bk N M off cb : Nat) : Prop where
  fa : w.cell? ⟨bs, 0, none⟩ = some (.slice ao N N)
  fb : w.cell? ⟨bs, 1, none⟩ = some (.slice bo M M)
  fd : w.cell? ⟨bs, 2, none⟩ = some vd
  fi : w.cell? ⟨bs, 3, none⟩ = some vi
  ff : w.cell? ⟨bs, 4, none⟩ = some (.slice (some ⟨bf, 0, none⟩) (2 * off + 1) (2 * off + 1))
  fk : w.cell? ⟨bs, 5, none⟩ = some (.slice (some ⟨bk, 0, none⟩) (2 * off + 1) (2 * off + 1))
  fo : w.cell? ⟨bs, 6, none⟩ = some (.int .i64 off)
  fc : w.cell? ⟨bs, 7, none⟩ = some (.int .i64 cb)

theorem SMem.keep {w w' : World} {bs : Nat} {ao bo : Option Addr} {vd vi : Value} {bf bk N M off cb : Nat} (h : SMem w bs ao bo vd vi bf bk N M off cb) (k : w'.heap[bs]? = w.heap[bs]?) :
    SMem w' bs ao bo vd vi bf bk N M off cb := by
  have c : ∀ o, w'.cell? ⟨bs, o, none⟩ = w.cell? ⟨bs, o, none⟩ := fun o => World.cell?_of_block (a := ⟨bs, o, none⟩) k
  exact ⟨by rw [c]; exact h.fa, by rw [c]; exact h.fb, by rw [c]; exact h.fd, by rw [c]; exact h.fi, by rw [c]; exact h.ff, by rw [c]; exact h.fk, by rw [c]; exact h.fo, by rw [c]; exact h.fc⟩

theorem SMem.lt {w : World} {bs : Nat} {ao bo : Option Addr} {vd vi : Value} {bf bk N M off cb : Nat} (h : SMem w bs ao bo vd vi bf bk N M off cb) : bs < w.heap.size := World.block_lt_of_cell? _ _ h.fa

set_option maxHeartbeats 400000 in
theorem fwdEqual_any (p5 p6 p8 bs ba bb N M alo blo : Nat) (a b : Nat → Int) (X Y : Int) (w : World) (hN : N ≤ 1048576) (hM : M ≤ 1048576)
    (hX0 : 0 ≤ X) (hX1 : (alo : Int) + X < N) (hY0 : 0 ≤ Y) (hY1 : (blo : Int) + Y < M)
    (c5 : w.cell? ⟨p5, 0, none⟩ = some (.pointer (some ⟨bs, 0, none⟩))) (c6 : w.cell? ⟨p6, 0, none⟩ = some (.int .i64 alo)) (c8 : w.cell? ⟨p8, 0, none⟩ = some (.int .i64 blo))
    (fa : w.cell? ⟨bs, 0, none⟩ = some (.slice (some ⟨ba, 0, none⟩) N N)) (fb : w.cell? ⟨bs, 1, none⟩ = some (.slice (some ⟨bb, 0, none⟩) M M))
    (ra : Arr w ba N 3 (fun i => .int .i64 (a i))) (rb : Arr w bb M 3 (fun i => .int .i64 (b i))) :
    Calls Try.prog 39 #[.int .i64 X, .int .i64 Y, .pointer (some ⟨p5, 0, none⟩), .pointer (some ⟨p6, 0, none⟩), .pointer (some ⟨p8, 0, none⟩)] w fun e w' => e = .returned (.bool (a (alo + X.toNat) == b (blo + Y.toNat))) ∧ ∃ q, w' = w.drewN q := by
  obtain ⟨x, rfl⟩ := Int.eq_ofNat_of_zero_le hX0
  obtain ⟨y, rfl⟩ := Int.eq_ofNat_of_zero_le hY0
  have ca := ra.cell (j := alo + x) (by omega)
  have cb := rb.cell (j := blo + y) (by omega)
  clear ra rb
  simp only [Int.toNat_natCast]
  go_enter Try.func39, Try.ntmps39
  go_wp2
  go_quiet (fail)
  go_wp2
  go_ret
  exact ⟨rfl, _, rfl⟩

set_option maxHeartbeats 400000 in
theorem bwdEqual_any (p5 p7 p9 bs ba bb N M ahi bhi : Nat) (a b : Nat → Int) (X Y : Int) (w : World) (hN : N ≤ 1048576) (hM : M ≤ 1048576)
    (hX0 : 0 ≤ X) (hX1 : X < ahi) (hY0 : 0 ≤ Y) (hY1 : Y < bhi) (hA : ahi ≤ N) (hB : bhi ≤ M)
    (c5 : w.cell? ⟨p5, 0, none⟩ = some (.pointer (some ⟨bs, 0, none⟩))) (c6 : w.cell? ⟨p7, 0, none⟩ = some (.int .i64 ahi)) (c8 : w.cell? ⟨p9, 0, none⟩ = some (.int .i64 bhi))
    (fa : w.cell? ⟨bs, 0, none⟩ = some (.slice (some ⟨ba, 0, none⟩) N N)) (fb : w.cell? ⟨bs, 1, none⟩ = some (.slice (some ⟨bb, 0, none⟩) M M))
    (ra : Arr w ba N 3 (fun i => .int .i64 (a i))) (rb : Arr w bb M 3 (fun i => .int .i64 (b i))) :
    Calls Try.prog 40 #[.int .i64 X, .int .i64 Y, .pointer (some ⟨p5, 0, none⟩), .pointer (some ⟨p7, 0, none⟩), .pointer (some ⟨p9, 0, none⟩)] w fun e w' => e = .returned (.bool (a (ahi - 1 - X.toNat) == b (bhi - 1 - Y.toNat))) ∧ ∃ q, w' = w.drewN q := by
  obtain ⟨x, rfl⟩ := Int.eq_ofNat_of_zero_le hX0
  obtain ⟨y, rfl⟩ := Int.eq_ofNat_of_zero_le hY0
  have ca := ra.cell (j := ahi - 1 - x) (by omega)
  have cb := rb.cell (j := bhi - 1 - y) (by omega)
  clear ra rb
  simp only [Int.toNat_natCast]
  go_enter Try.func40, Try.ntmps40
  go_wp2
  go_quiet (fail)
  go_wp2
  go_ret
  exact ⟨rfl, _, rfl⟩

end Go.Proofs.Qxb6600671a
