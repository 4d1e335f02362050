/- 'compact': its memory, and the closure 'besideOther'. -/
import Derived.Test.Qxb6600671aSmall
import Derived.Test.Qxb6600671aCompactLaw
namespace Go.Proofs.Qxb6600671a
open Go.RowKit

theorem bools_upd (ch : Nat → Bool) (k : Nat) (v : Bool) (j : Nat) : upd (fun i => Value.bool (ch i)) k (.bool v) j = .bool (updB ch k v j) := by
  by_cases h : j = k
  · subst h; simp [upd, updB]
  · simp [upd, updB, h]

/-- The places of the unchanged lines among the first k. -/
def posL (oth : Nat → Bool) : Nat → List Nat
  | 0 => []
  | k + 1 => if oth k then posL oth k else posL oth k ++ [k]

theorem posL_length (oth : Nat → Bool) (k : Nat) : (posL oth k).length = cntF oth k := by
  induction k with
  | zero => rfl
  | succ k ih => simp only [posL, cntF]; split <;> simp_all

theorem posL_lt (oth : Nat → Bool) (k : Nat) : ∀ x, x ∈ posL oth k → x < k := by
  induction k with
  | zero => intro x hx; simp [posL] at hx
  | succ k ih =>
    intro x hx
    simp only [posL] at hx
    split at hx
    · exact Nat.lt_succ_of_lt (ih x hx)
    · rcases List.mem_append.1 hx with hx | hx
      · exact Nat.lt_succ_of_lt (ih x hx)
      · simp at hx; omega

/-- 'besideOther(u)': m: the other text's lines; K: how many of them are unchanged, at places p 0, p 1, .. -/
def besideB (m K : Nat) (p : Nat → Nat) (u : Nat) : Bool :=
  decide ((if 0 < u then p (u - 1) + 1 else 0) < (if u < K then p u else m))

set_option maxHeartbeats 400000 in
theorem beside_any (b1 b2 g m mc K cu : Nat) (ao au : Option Addr) (p : Nat → Nat) (u : Nat) (w : World) (hm : m ≤ 1048576) (hu : u ≤ K) (hK : K ≤ 1048576)
    (h1 : w.cell? ⟨b1, 0, none⟩ = some (.slice ao m mc)) (h2 : w.cell? ⟨b2, 0, none⟩ = some (.slice au K cu)) (hau : 0 < K → au = some ⟨g, 0, none⟩)
    (hc : ∀ i, i < K → w.cell? ⟨g, i, none⟩ = some (.int .i64 (p i))) (hp : ∀ i, i < K → p i < m) :
    Calls Try.prog 38 #[.int .i64 u, .pointer (some ⟨b1, 0, none⟩), .pointer (some ⟨b2, 0, none⟩)] w fun e w' => e = .returned (.bool (besideB m K p u)) ∧ ∃ q, w' = w.drewN q := by
  by_cases h0 : 0 < u
  · obtain rfl := hau (by omega)
    have hc1 := hc (u - 1) (by omega)
    have hp1 := hp (u - 1) (by omega)
    by_cases hk : u < K
    · have hc2 := hc u hk
      have hp2 := hp u hk
      have HB : Hid (besideB m K p u = decide ((p (u - 1) : Int) + 1 < (p u : Int))) := by
        simp only [Hid, besideB, if_pos h0, if_pos hk]; congr 1; apply propext; omega
      clear hc hp hau
      go_enter Try.func38, Try.ntmps38
      go_wp2
      go_quiet (fail)
      go_wp2
      go_ret
      exact ⟨by rw [HB.out]; rfl, _, rfl⟩
    · have HB : Hid (besideB m K p u = decide ((p (u - 1) : Int) + 1 < (m : Int))) := by
        simp only [Hid, besideB, if_pos h0, if_neg hk]; congr 1; apply propext; omega
      clear hc hp hau
      go_enter Try.func38, Try.ntmps38
      go_wp2
      go_quiet (fail)
      go_wp2
      go_ret
      exact ⟨by rw [HB.out]; rfl, _, rfl⟩
  · obtain rfl : u = 0 := by omega
    by_cases hk : 0 < K
    · obtain rfl := hau (by omega)
      have hc2 := hc 0 hk
      have hp2 := hp 0 hk
      have HB : Hid (besideB m K p 0 = decide (0 < p 0)) := by
        simp only [Hid, besideB, if_neg h0, if_pos hk]
      clear hc hp hau
      go_enter Try.func38, Try.ntmps38
      go_wp2
      go_quiet (fail)
      go_wp2
      go_ret
      exact ⟨by rw [HB.out]; rfl, _, rfl⟩
    · have HB : Hid (besideB m K p 0 = decide (0 < m)) := by
        simp only [Hid, besideB, if_neg h0, if_neg hk]
      clear hc hp hau
      go_enter Try.func38, Try.ntmps38
      go_wp2
      go_quiet (fail)
      go_wp2
      go_ret
      exact ⟨by rw [HB.out]; rfl, _, rfl⟩

/-- What 'besideOther' has captured: the other text's marks (in a box), the places of its unchanged lines (a box that leads to a row). -/
structure BMem (w : World) (b1 b2 g m K : Nat) (p : Nat → Nat) (ao au : Option Addr) (mc cu : Nat) : Prop where
  h1 : w.cell? ⟨b1, 0, none⟩ = some (.slice ao m mc)
  h2 : w.cell? ⟨b2, 0, none⟩ = some (.slice au K cu)
  hc : ∀ i, i < K → w.cell? ⟨g, i, none⟩ = some (.int .i64 (p i))
  hau : 0 < K → au = some ⟨g, 0, none⟩
  hp : ∀ i, i < K → p i < m
  hm : m ≤ 1048576
  hK : K ≤ m

theorem BMem.call {w : World} {b1 b2 g m K : Nat} {p : Nat → Nat} {ao au : Option Addr} {mc cu : Nat} (h : BMem w b1 b2 g m K p ao au mc cu) (u : Nat) (hu : u ≤ K) :
    Calls Try.prog 38 #[.int .i64 u, .pointer (some ⟨b1, 0, none⟩), .pointer (some ⟨b2, 0, none⟩)] w fun e w' => e = .returned (.bool (besideB m K p u)) ∧ ∃ q, w' = w.drewN q :=
  beside_any b1 b2 g m mc K cu ao au p u w h.hm hu (Nat.le_trans h.hK h.hm) h.h1 h.h2 h.hau h.hc h.hp

theorem BMem.keep {w w' : World} {b1 b2 g m K : Nat} {p : Nat → Nat} {ao au : Option Addr} {mc cu : Nat} (h : BMem w b1 b2 g m K p ao au mc cu)
    (k1 : w'.heap[b1]? = w.heap[b1]?) (k2 : w'.heap[b2]? = w.heap[b2]?) (k3 : w'.heap[g]? = w.heap[g]?) : BMem w' b1 b2 g m K p ao au mc cu :=
  ⟨by rw [← h.h1]; exact World.cell?_of_block k1, by rw [← h.h2]; exact World.cell?_of_block k2, fun i hi => by rw [← h.hc i hi]; exact World.cell?_of_block k3, h.hau, h.hp, h.hm, h.hK⟩

/-- The memory in which the runs move. -/
structure CMem (w wr : World) (bn bc n m K : Nat) (num : Nat → Int) (ch : Nat → Bool) (p : Nat → Nat) (g : Nat) (ao au : Option Addr) (mc cu : Nat) : Prop where
  hn : Arr wr bn n 3 (fun i => .int .i64 (num i))
  hc : Arr wr bc n 4 (fun i => .bool (ch i))
  hb : BMem wr w.heap.size (w.heap.size + 1) g m K p ao au mc cu
  ho : Only [bc] w wr
  hlt : bc < w.heap.size
  hne : bn ≠ bc
  hg : w.heap.size ≤ g

theorem CMem.set {w wr : World} {bn bc n m K : Nat} {num : Nat → Int} {ch : Nat → Bool} {p : Nat → Nat} {g : Nat} {ao au : Option Addr} {mc cu : Nat}
    (h : CMem w wr bn bc n m K num ch p g ao au mc cu) (k : Nat) (v : Bool) : CMem w (wr.setCell ⟨bc, k, none⟩ (.bool v)) bn bc n m K num (updB ch k v) p g ao au mc cu := by
  have hlt := h.hlt
  have hg := h.hg
  exact ⟨h.hn.setOther h.hne k _, (h.hc.set k (.bool v)).congr (fun j _ => bools_upd ch k v j),
    h.hb.keep (Below.heap_setCell _ _ _ _ (by show _ ≠ bc; omega)) (Below.heap_setCell _ _ _ _ (by show _ ≠ bc; omega)) (Below.heap_setCell _ _ _ _ (by show _ ≠ bc; omega)),
    h.ho.setCell (fun _ => by simp) _, h.hlt, h.hne, h.hg⟩

theorem CMem.drewN {w wr : World} {bn bc n m K : Nat} {num : Nat → Int} {ch : Nat → Bool} {p : Nat → Nat} {g : Nat} {ao au : Option Addr} {mc cu : Nat}
    (h : CMem w wr bn bc n m K num ch p g ao au mc cu) (q : Nat) : CMem w (wr.drewN q) bn bc n m K num ch p g ao au mc cu :=
  ⟨h.hn.keep rfl, h.hc.keep rfl, h.hb.keep rfl rfl rfl, h.ho.drewN q, h.hlt, h.hne, h.hg⟩

end Go.Proofs.Qxb6600671a
