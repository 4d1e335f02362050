/- Rows of cells in memory as functions, and what a call leaves alone. Plain laws on worlds: no program. -/
import Derived.WalkKit
import Derived.WalkSpells
import Derived.WalkLawsBesides
namespace Go.Proofs.Qxb6601548a
open Go.RowKit

/-- f with its value at k turned to v. -/
def upd {α : Type} (f : Nat → α) (k : Nat) (v : α) : Nat → α := fun j => if j = k then v else f j

theorem upd_same {α : Type} (f : Nat → α) (k : Nat) (v : α) : upd f k v k = v := by simp [upd]
theorem upd_other {α : Type} (f : Nat → α) {j k : Nat} (v : α) (h : j ≠ k) : upd f k v j = f j := by simp [upd, h]

/-- Block b is a row of n cells, f 0 to f (n - 1), none of them frozen. -/
def Arr (w : World) (b n : Nat) (e : TypeId) (f : Nat → Value) : Prop :=
  ∃ c : Array Value, w.heap[b]? = some (.cells c e (0, 0)) ∧ c.size = n ∧ ∀ j, j < n → c[j]? = some (f j)

theorem Arr.cell {w : World} {b n : Nat} {e : TypeId} {f : Nat → Value} (h : Arr w b n e f) {j : Nat} (hj : j < n) : w.cell? ⟨b, j, none⟩ = some (f j) := by
  obtain ⟨c, hb, _, hc⟩ := h
  simp [World.cell?, hb, hc j hj]

theorem Arr.frozen {w : World} {b n : Nat} {e : TypeId} {f : Nat → Value} (h : Arr w b n e f) (j : Nat) : w.frozen? ⟨b, j, none⟩ = false := by
  obtain ⟨c, hb, _, _⟩ := h
  simp [World.frozen?, hb]

theorem Arr.lt {w : World} {b n : Nat} {e : TypeId} {f : Nat → Value} (h : Arr w b n e f) : b < w.heap.size := by
  obtain ⟨c, hb, _, _⟩ := h
  rcases Nat.lt_or_ge b w.heap.size with h | h
  · exact h
  · simp [Array.getElem?_eq_none h] at hb

theorem Arr.keep {w w' : World} {b n : Nat} {e : TypeId} {f : Nat → Value} (h : Arr w b n e f) (hk : w'.heap[b]? = w.heap[b]?) : Arr w' b n e f := by
  obtain ⟨c, hb, hs, hc⟩ := h
  exact ⟨c, by rw [hk, hb], hs, hc⟩

theorem Arr.congr {w : World} {b n : Nat} {e : TypeId} {f g : Nat → Value} (h : Arr w b n e f) (hg : ∀ j, j < n → f j = g j) : Arr w b n e g := by
  obtain ⟨c, hb, hs, hc⟩ := h
  exact ⟨c, hb, hs, fun j hj => by rw [hc j hj, hg j hj]⟩

theorem heap_setCell_at (w : World) (b k : Nat) (v : Value) {c : Array Value} {e : TypeId} {z : Nat × Nat} (h : w.heap[b]? = some (.cells c e z)) :
    (w.setCell ⟨b, k, none⟩ v).heap[b]? = some (.cells (c.setIfInBounds k v) e z) := by
  simp [World.setCell, Array.getElem?_modify, h]

theorem Arr.set {w : World} {b n : Nat} {e : TypeId} {f : Nat → Value} (h : Arr w b n e f) (k : Nat) (v : Value) : Arr (w.setCell ⟨b, k, none⟩ v) b n e (upd f k v) := by
  obtain ⟨c, hb, hs, hc⟩ := h
  refine ⟨c.setIfInBounds k v, heap_setCell_at w b k v hb, by simpa using hs, fun j hj => ?_⟩
  by_cases hjk : j = k
  · subst hjk
    rw [upd_same, Array.getElem?_setIfInBounds]
    simp [hs, hj]
  · rw [upd_other _ _ hjk, Array.getElem?_setIfInBounds]
    simp [hc j hj, Ne.symm hjk]

theorem Arr.setOther {w : World} {b n : Nat} {e : TypeId} {f : Nat → Value} (h : Arr w b n e f) {b' : Nat} (hb : b ≠ b') (k : Nat) (v : Value) : Arr (w.setCell ⟨b', k, none⟩ v) b n e f :=
  h.keep (Below.heap_setCell _ _ _ _ hb)

theorem Arr.alloc {w : World} {b n : Nat} {e : TypeId} {f : Nat → Value} (h : Arr w b n e f) (o : Obj) : Arr (w.alloc o) b n e f :=
  h.keep (Below.heap_alloc _ _ _ h.lt)

theorem Arr.drew {w : World} {b n : Nat} {e : TypeId} {f : Nat → Value} (h : Arr w b n e f) : Arr w.drew b n e f := h.keep rfl

theorem Arr.made (w : World) (e : TypeId) (c : Array Value) (n : Nat) (f : Nat → Value) (hs : c.size = n) (hc : ∀ j, j < n → c[j]? = some (f j)) : Arr (w.alloc (.cells c e)) w.heap.size n e f := by
  refine ⟨c, ?_, hs, hc⟩
  show (w.heap.push _)[w.heap.size]? = _
  simp

theorem madeCells_at (z : Value) (n j : Nat) (hj : j < n) : (madeCells #[z] n)[j]? = some z := by
  simp [madeCells, hj, Nat.mod_one]

/-- From w to w' only blocks of S, and new blocks, have turned. -/
structure Only (S : List Nat) (w w' : World) : Prop where
  os : w'.os = w.os
  tape : w'.tape = w.tape
  output : w'.output = w.output
  size : w.heap.size ≤ w'.heap.size
  block : ∀ k, k < w.heap.size → ¬ k ∈ S → w'.heap[k]? = w.heap[k]?

theorem Only.refl (S : List Nat) (w : World) : Only S w w := ⟨rfl, rfl, rfl, Nat.le_refl _, fun _ _ _ => rfl⟩

theorem Only.trans {S : List Nat} {a b c : World} (h : Only S a b) (k : Only S b c) : Only S a c :=
  ⟨k.os.trans h.os, k.tape.trans h.tape, k.output.trans h.output, Nat.le_trans h.size k.size,
    fun i hi hs => (k.block i (Nat.lt_of_lt_of_le hi h.size) hs).trans (h.block i hi hs)⟩

theorem Only.mono {S T : List Nat} {a b : World} (h : Only S a b) (hs : ∀ k, k ∈ S → k ∈ T) : Only T a b :=
  ⟨h.os, h.tape, h.output, h.size, fun i hi ht => h.block i hi (fun hm => ht (hs i hm))⟩

/-- What turned in a block that is new since a does not count for a. -/
theorem Only.transNew {S T : List Nat} {a b c : World} (h : Only S a b) (k : Only T b c) (hT : ∀ i, i ∈ T → i < a.heap.size → i ∈ S) : Only S a c :=
  ⟨k.os.trans h.os, k.tape.trans h.tape, k.output.trans h.output, Nat.le_trans h.size k.size,
    fun i hi hs => (k.block i (Nat.lt_of_lt_of_le hi h.size) (fun hm => hs (hT i hm hi))).trans (h.block i hi hs)⟩

theorem Only.drew {S : List Nat} {a w : World} (h : Only S a w) : Only S a w.drew := ⟨h.os, h.tape, h.output, h.size, h.block⟩

theorem Only.drewN {S : List Nat} {a w : World} (h : Only S a w) (n : Nat) : Only S a (w.drewN n) := ⟨h.os, h.tape, h.output, h.size, h.block⟩

theorem Only.alloc {S : List Nat} {a w : World} (h : Only S a w) (o : Obj) : Only S a (w.alloc o) :=
  h.trans ⟨rfl, rfl, rfl, by simp, fun k hk _ => Below.heap_alloc _ _ _ hk⟩

theorem Only.setCell {S : List Nat} {a w : World} (h : Only S a w) {p : Addr} (hp : p.block < a.heap.size → p.block ∈ S) (u : Value) : Only S a (w.setCell p u) := by
  refine ⟨h.os, h.tape, h.output, by simp [World.setCell, h.size], fun k hk hs => ?_⟩
  have hne : k ≠ p.block := by
    intro e
    rw [e] at hk hs
    exact hs (hp hk)
  rw [Below.heap_setCell _ _ _ _ hne]
  exact h.block k hk hs

theorem Only.arr {S : List Nat} {w w' : World} (h : Only S w w') {b n : Nat} {e : TypeId} {f : Nat → Value} (ha : Arr w b n e f) (hb : ¬ b ∈ S) : Arr w' b n e f :=
  ha.keep (h.block b ha.lt hb)

theorem Only.below {w w' : World} (h : Only [] w w') : Below w.heap.size w w' :=
  ⟨h.os, h.tape, h.output, h.size, fun k hk => h.block k hk (by simp)⟩

theorem Only.ofBelow {w w' : World} (h : Below w.heap.size w w') : Only [] w w' :=
  ⟨h.os, h.tape, h.output, h.size, fun k hk _ => h.block k hk⟩

theorem Only.cell {S : List Nat} {w w' : World} (h : Only S w w') {p : Addr} (hp : p.block < w.heap.size) (hs : ¬ p.block ∈ S) : w'.cell? p = w.cell? p := World.cell?_of_block (w := w) (h.block p.block hp hs)

theorem Only.frozen {S : List Nat} {w w' : World} (h : Only S w w') {p : Addr} (hp : p.block < w.heap.size) (hs : ¬ p.block ∈ S) : w'.frozen? p = w.frozen? p := World.frozen?_of_block (w := w) (h.block p.block hp hs)

theorem ret_int {k : IntKind} {a b : Int} (h : a = b) : Ending.returned (.int k a) = .returned (.int k b) := by rw [h]

end Go.Proofs.Qxb6601548a
