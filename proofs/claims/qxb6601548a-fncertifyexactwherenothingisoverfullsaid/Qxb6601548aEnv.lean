/- The program's object in memory, and set(s). -/
import Derived.Test.Qxb6601548aOrig
namespace Go.Proofs.Qxb6601548a
open Go.RowKit

/-- Nothing but draws lies between. -/
def SameW (a b : World) : Prop := b.heap = a.heap ∧ Only [] a b

theorem SameW.refl (a : World) : SameW a a := ⟨rfl, Only.refl _ _⟩
theorem SameW.drewN {a b : World} (h : SameW a b) (q : Nat) : SameW a (b.drewN q) := ⟨h.1, h.2.drewN q⟩
theorem SameW.arr {a b : World} (h : SameW a b) {k n : Nat} {e : TypeId} {f : Nat → Value} (ha : Arr a k n e f) : Arr b k n e f := ha.keep (by rw [h.1])

/-- A slice of our own making that is read, and lies in no block of S. -/
def ReadsO (S : List Nat) (w : World) (ao : Option Addr) (len : Nat) (f : Nat → Value) : Prop :=
  (ao = none ∧ len = 0) ∨ ∃ b, ao = some ⟨b, 0, none⟩ ∧ b < w.heap.size ∧ ¬ b ∈ S ∧ ∀ i, i < len → w.cell? ⟨b, i, none⟩ = some (f i)

theorem ReadsO.only {S : List Nat} {w w' : World} {ao : Option Addr} {len : Nat} {f : Nat → Value} (h : ReadsO S w ao len f) (ho : Only S w w') : ReadsO S w' ao len f := by
  rcases h with h | ⟨b, rfl, hb, hS, hc⟩
  · exact .inl h
  · exact .inr ⟨b, rfl, Nat.lt_of_lt_of_le hb ho.size, hS, fun i hi => by rw [ho.cell hb hS]; exact hc i hi⟩

theorem ReadsO.cell {S : List Nat} {w : World} {ao : Option Addr} {len : Nat} {f : Nat → Value} (h : ReadsO S w ao len f) {i : Nat} (hi : i < len) : ∃ b, ao = some ⟨b, 0, none⟩ ∧ w.cell? ⟨b, i, none⟩ = some (f i) := by
  rcases h with h | ⟨b, rfl, hb, hS, hc⟩
  · omega
  · exact ⟨b, rfl, hc i hi⟩

theorem ReadsO.reads {S : List Nat} {w : World} {ao : Option Addr} {len : Nat} {f : Nat → Value} (h : ReadsO S w ao len f) : Reads w ao len f := by
  rcases h with h | ⟨b, rfl, hb, hS, hc⟩
  · exact .inl h.2
  · exact .inr ⟨b, 0, rfl, hb, fun i hi => by rw [Nat.zero_add]; exact hc i hi⟩

/-- The object that certify reads. -/
structure Env (I : Cin) (S : List Nat) (w : World) (pb bs bl bc bf : Nat) (a0 a2 a3 a4 a5 : Option Addr) : Prop where
  d0 : w.cell? ⟨pb, 0, none⟩ = some (.slice a0 I.e I.e)
  d1 : w.cell? ⟨pb, 1, none⟩ = some (.slice (some ⟨bf, 0, none⟩) I.e I.e)
  d3 : w.cell? ⟨pb, 3, none⟩ = some (.slice a2 I.ml I.ml)
  d4 : w.cell? ⟨pb, 4, none⟩ = some (.slice a3 I.n I.n)
  d8 : w.cell? ⟨pb, 8, none⟩ = some (.slice a5 I.vl I.vl)
  d12 : w.cell? ⟨pb, 12, none⟩ = some (.slice a4 I.wl I.wl)
  d31 : w.cell? ⟨pb, 31, none⟩ = some (.slice (some ⟨bl, 0, none⟩) I.e I.e)
  d36 : w.cell? ⟨pb, 36, none⟩ = some (.slice (some ⟨bs, 0, none⟩) I.n I.n)
  d37 : w.cell? ⟨pb, 37, none⟩ = some (.slice (some ⟨bc, 0, none⟩) I.e I.e)
  hpb : pb < w.heap.size ∧ ¬ pb ∈ S
  hbf : bf < w.heap.size ∧ ¬ bf ∈ S
  r1 : ∀ i, i < I.e → w.cell? ⟨bf, i, none⟩ = some (.int .i8 (I.fx i))
  r0 : ReadsO S w a0 I.e (fun i => .float .f64 (I.wt i))
  r2 : ReadsO S w a2 I.ml (fun i => .int .i32 (I.mem i))
  r3 : ReadsO S w a3 I.n (fun i => .int .i64 (I.en i))
  r4 : ReadsO S w a4 I.wl (fun i => .int .i32 (I.wh i))
  r5 : ReadsO S w a5 I.vl (fun i => .float .f64 (I.val i))

theorem Env.only {I : Cin} {S : List Nat} {w w' : World} {pb bs bl bc bf : Nat} {a0 a2 a3 a4 a5 : Option Addr} (h : Env I S w pb bs bl bc bf a0 a2 a3 a4 a5) (ho : Only S w w') : Env I S w' pb bs bl bc bf a0 a2 a3 a4 a5 := by
  have k : ∀ i, w'.cell? ⟨pb, i, none⟩ = w.cell? ⟨pb, i, none⟩ := fun i => ho.cell h.hpb.1 h.hpb.2
  have kf : ∀ i, w'.cell? ⟨bf, i, none⟩ = w.cell? ⟨bf, i, none⟩ := fun i => ho.cell h.hbf.1 h.hbf.2
  exact ⟨by rw [k]; exact h.d0, by rw [k]; exact h.d1, by rw [k]; exact h.d3, by rw [k]; exact h.d4, by rw [k]; exact h.d8, by rw [k]; exact h.d12, by rw [k]; exact h.d31, by rw [k]; exact h.d36, by rw [k]; exact h.d37,
    ⟨Nat.lt_of_lt_of_le h.hpb.1 ho.size, h.hpb.2⟩, ⟨Nat.lt_of_lt_of_le h.hbf.1 ho.size, h.hbf.2⟩, fun i hi => by rw [kf]; exact h.r1 i hi, h.r0.only ho, h.r2.only ho, h.r3.only ho, h.r4.only ho, h.r5.only ho⟩

/-- What set(s) returns. -/
def SetPost (I : Cin) (a2 : Option Addr) (s : Nat) (e : Ending) : Prop :=
  ∃ a c, e = .returned (.slice a (I.E s - I.st s : Nat) c) ∧ (I.st s < I.E s → ∃ b, a2 = some ⟨b, 0, none⟩ ∧ a = some ⟨b, I.st s, none⟩)

set_option maxRecDepth 100000 in
set_option maxHeartbeats 4000000 in
theorem set_first (w : World) (pb x3 ml n E : Nat) (a2 : Option Addr) (b3 : n ≤ 1048576) (hn : 0 < n) (hml : E ≤ ml)
    (h3 : w.cell? ⟨pb, 3, none⟩ = some (.slice a2 ml ml)) (h4 : w.cell? ⟨pb, 4, none⟩ = some (.slice (some ⟨x3, 0, none⟩) n n)) (hc : w.cell? ⟨x3, 0, none⟩ = some (.int .i64 E)) (ha : (a2 = none ∧ E = 0) ∨ ∃ b, a2 = some ⟨b, 0, none⟩) :
    Calls Try.prog 41 #[.pointer (some ⟨pb, 0, none⟩), .int .i64 0] w fun e w' => e = .returned (.slice a2 E ml) ∧ SameW w w' := by
  have i1 : (E : Int) ≤ (ml : Int) := by omega
  have i2 : (0 : Int) < (n : Int) := by omega
  rcases ha with ⟨rfl, rfl⟩ | ⟨x2, rfl⟩
  · go_enter Try.func41, Try.ntmps41
    go_wp2_with fail
    go_quiet (fail)
    go_wp2_with fail
    go_ret
    exact ⟨rfl, (SameW.refl _).drewN _⟩
  · go_enter Try.func41, Try.ntmps41
    go_wp2_with fail
    go_quiet (fail)
    go_wp2_with fail
    go_ret
    exact ⟨rfl, (SameW.refl _).drewN _⟩

def SetN (a2 : Option Addr) (E0 E : Nat) (e : Ending) : Prop := ∃ a c, e = .returned (.slice a (E - E0) c) ∧ (E0 < E → a = a2.map fun x => ⟨x.block, E0, none⟩)

set_option maxRecDepth 100000 in
set_option maxHeartbeats 4000000 in
theorem set_next (w : World) (pb x3 ml n k E0 E : Nat) (a2 : Option Addr) (b2 : ml ≤ 1048576) (b3 : n ≤ 1048576) (hn : k + 1 < n) (hE : E0 ≤ E) (hml : E ≤ ml)
    (h3 : w.cell? ⟨pb, 3, none⟩ = some (.slice a2 ml ml)) (h4 : w.cell? ⟨pb, 4, none⟩ = some (.slice (some ⟨x3, 0, none⟩) n n)) (hc0 : w.cell? ⟨x3, k, none⟩ = some (.int .i64 E0)) (hc : w.cell? ⟨x3, k + 1, none⟩ = some (.int .i64 E))
    (ha : (a2 = none ∧ E = 0) ∨ ∃ b, a2 = some ⟨b, 0, none⟩) :
    Calls Try.prog 41 #[.pointer (some ⟨pb, 0, none⟩), .int .i64 ((k : Int) + 1)] w fun e w' => SetN a2 E0 E e ∧ SameW w w' := by
  have i0 : (E0 : Int) ≤ (E : Int) := by omega
  have i1 : (E : Int) ≤ (ml : Int) := by omega
  have i2 : (k : Int) + 1 < (n : Int) := by omega
  have i3 : (k : Int) < (n : Int) := by omega
  rcases ha with ⟨rfl, rfl⟩ | ⟨x2, rfl⟩
  · obtain rfl : E0 = 0 := by omega
    go_enter Try.func41, Try.ntmps41
    go_wp2_with fail
    go_quiet (fail)
    go_wp2_with fail
    go_ret
    exact ⟨⟨_, _, rfl, fun h => by omega⟩, (SameW.refl _).drewN _⟩
  · by_cases hm : ml = E0
    · go_enter Try.func41, Try.ntmps41
      go_wp2_with fail
      go_quiet (fail)
      go_wp2_with fail
      go_ret
      exact ⟨⟨_, _, rfl, fun h => by omega⟩, (SameW.refl _).drewN _⟩
    · go_enter Try.func41, Try.ntmps41
      go_wp2_with fail
      go_quiet (fail)
      go_wp2_with fail
      go_ret
      exact ⟨⟨_, _, rfl, fun h => rfl⟩, (SameW.refl _).drewN _⟩

theorem set_any (I : Cin) (F : I.Fits) (S : List Nat) (w : World) (pb bs bl bc bf : Nat) (a0 a2 a3 a4 a5 : Option Addr) (b2 : I.ml ≤ 1048576) (b3 : I.n ≤ 1048576) (hE : Env I S w pb bs bl bc bf a0 a2 a3 a4 a5) (s : Nat) (hs : s < I.n) :
    Calls Try.prog 41 #[.pointer (some ⟨pb, 0, none⟩), .int .i64 s] w fun e w' => SetPost I a2 s e ∧ SameW w w' := by
  have hle := F.le s hs
  have hml := F.ml s hs
  have ha : (a2 = none ∧ I.E s = 0) ∨ ∃ b, a2 = some ⟨b, 0, none⟩ := by
    rcases hE.r2 with ⟨h1, h2⟩ | ⟨b, h, _⟩
    · exact .inl ⟨h1, by omega⟩
    · exact .inr ⟨b, h⟩
  obtain ⟨x3, h3, hc⟩ := hE.r3.cell hs
  have h4 := hE.d4
  rw [h3] at h4
  rw [F.en s hs] at hc
  cases s with
  | zero =>
    refine (set_first w pb x3 I.ml I.n (I.E 0) a2 b3 hs hml hE.d3 h4 hc ha).mono ?_
    rintro e w' ⟨rfl, hS⟩
    refine ⟨⟨a2, I.ml, rfl, fun h => ?_⟩, hS⟩
    rcases ha with ⟨_, h0⟩ | ⟨b, hb⟩
    · omega
    · exact ⟨b, hb, hb⟩
  | succ k =>
    obtain ⟨x3', h3', hc0⟩ := hE.r3.cell (i := k) (by omega)
    rw [h3] at h3'
    obtain rfl : x3 = x3' := by simpa using h3'
    rw [F.en k (by omega)] at hc0
    refine (set_next w pb x3 I.ml I.n k (I.E k) (I.E (k + 1)) a2 b2 b3 hs hle hml hE.d3 h4 hc0 hc ha).mono ?_
    rintro e w' ⟨⟨a, c, rfl, h5⟩, hS⟩
    refine ⟨⟨a, c, rfl, fun h => ?_⟩, hS⟩
    rcases ha with ⟨_, h0⟩ | ⟨b, hb⟩
    · omega
    · exact ⟨b, hb, by rw [h5 h, hb]; rfl⟩

end Go.Proofs.Qxb6601548a
