/- '(*search).compare', walked: by induction on the size of the part. -/
import Derived.Test.Qxb6600671aSplit
import Derived.Test.Qxb6600671aKeptLaw
import Derived.BigQuiet
namespace Go.Proofs.Qxb6600671a
open Go.RowKit

theorem bools_updK (ch : Nat → Bool) (k : Nat) (v : Bool) (j : Nat) : upd (fun i => Value.bool (ch i)) k (.bool v) j = .bool (upd ch k v j) := by
  by_cases h : j = k
  · subst h; simp [upd]
  · simp [upd, h]

/-- The memory in which 'compare' works. -/
structure KMem (w : World) (bs : Nat) (ao bo : Option Addr) (ba bb bd bi bf bk N M off cb : Nat) (a b F G : Nat → Int) (del ins : Nat → Bool) : Prop where
  S : SMem w bs ao bo (.slice (some ⟨bd, 0, none⟩) N N) (.slice (some ⟨bi, 0, none⟩) M M) bf bk N M off cb
  ra : 0 < N → ao = some ⟨ba, 0, none⟩ ∧ Arr w ba N 3 (fun i => .int .i64 (a i))
  rb : 0 < M → bo = some ⟨bb, 0, none⟩ ∧ Arr w bb M 3 (fun i => .int .i64 (b i))
  rd : Arr w bd N 4 (fun i => .bool (del i))
  ri : Arr w bi M 4 (fun i => .bool (ins i))
  rf : Arr w bf (2 * off + 1) 3 (fun i => .int .i64 (F i))
  rk : Arr w bk (2 * off + 1) 3 (fun i => .int .i64 (G i))

/-- The blocks are as many as they seem: bs, ba, bb are read, the four others written. -/
structure Apart4 (bs ba bb bd bi bf bk : Nat) : Prop where
  di : bd ≠ bi
  df : bd ≠ bf
  dk : bd ≠ bk
  if_ : bi ≠ bf
  ik : bi ≠ bk
  fk : bf ≠ bk
  s : bs ≠ bd ∧ bs ≠ bi ∧ bs ≠ bf ∧ bs ≠ bk
  a : ba ≠ bd ∧ ba ≠ bi ∧ ba ≠ bf ∧ ba ≠ bk
  b : bb ≠ bd ∧ bb ≠ bi ∧ bb ≠ bf ∧ bb ≠ bk

theorem KMem.keep {w w' : World} {bs : Nat} {ao bo : Option Addr} {ba bb bd bi bf bk N M off cb : Nat} {a b F G : Nat → Int} {del ins : Nat → Bool} (h : KMem w bs ao bo ba bb bd bi bf bk N M off cb a b F G del ins) (hk : ∀ k : Nat, w'.heap[k]? = w.heap[k]?) :
    KMem w' bs ao bo ba bb bd bi bf bk N M off cb a b F G del ins :=
  ⟨h.S.keep (hk _), fun p => ⟨(h.ra p).1, (h.ra p).2.keep (hk _)⟩, fun p => ⟨(h.rb p).1, (h.rb p).2.keep (hk _)⟩, h.rd.keep (hk _), h.ri.keep (hk _), h.rf.keep (hk _), h.rk.keep (hk _)⟩

theorem KMem.drewN {w : World} {bs : Nat} {ao bo : Option Addr} {ba bb bd bi bf bk N M off cb : Nat} {a b F G : Nat → Int} {del ins : Nat → Bool} (h : KMem w bs ao bo ba bb bd bi bf bk N M off cb a b F G del ins) (q : Nat) :
    KMem (w.drewN q) bs ao bo ba bb bd bi bf bk N M off cb a b F G del ins := h.keep (fun _ => rfl)

theorem KMem.setD {w : World} {bs : Nat} {ao bo : Option Addr} {ba bb bd bi bf bk N M off cb : Nat} {a b F G : Nat → Int} {del ins : Nat → Bool} (h : KMem w bs ao bo ba bb bd bi bf bk N M off cb a b F G del ins) (A : Apart4 bs ba bb bd bi bf bk) (k : Nat) (v : Bool) :
    KMem (w.setCell ⟨bd, k, none⟩ (.bool v)) bs ao bo ba bb bd bi bf bk N M off cb a b F G (upd del k v) ins :=
  ⟨h.S.keep (Below.heap_setCell _ _ _ _ A.s.1), fun p => ⟨(h.ra p).1, (h.ra p).2.setOther A.a.1 _ _⟩, fun p => ⟨(h.rb p).1, (h.rb p).2.setOther A.b.1 _ _⟩,
    (h.rd.set k (.bool v)).congr (fun j _ => bools_updK del k v j), h.ri.setOther (Ne.symm A.di) _ _, h.rf.setOther (Ne.symm A.df) _ _, h.rk.setOther (Ne.symm A.dk) _ _⟩

theorem KMem.setI {w : World} {bs : Nat} {ao bo : Option Addr} {ba bb bd bi bf bk N M off cb : Nat} {a b F G : Nat → Int} {del ins : Nat → Bool} (h : KMem w bs ao bo ba bb bd bi bf bk N M off cb a b F G del ins) (A : Apart4 bs ba bb bd bi bf bk) (k : Nat) (v : Bool) :
    KMem (w.setCell ⟨bi, k, none⟩ (.bool v)) bs ao bo ba bb bd bi bf bk N M off cb a b F G del (upd ins k v) :=
  ⟨h.S.keep (Below.heap_setCell _ _ _ _ A.s.2.1), fun p => ⟨(h.ra p).1, (h.ra p).2.setOther A.a.2.1 _ _⟩, fun p => ⟨(h.rb p).1, (h.rb p).2.setOther A.b.2.1 _ _⟩,
    h.rd.setOther A.di _ _, (h.ri.set k (.bool v)).congr (fun j _ => bools_updK ins k v j), h.rf.setOther (Ne.symm A.if_) _ _, h.rk.setOther (Ne.symm A.ik) _ _⟩

theorem KMem.split {w w' : World} {bs : Nat} {ao bo : Option Addr} {ba bb bd bi bf bk N M off cb : Nat} {a b F G F' G' : Nat → Int} {del ins : Nat → Bool} (h : KMem w bs ao bo ba bb bd bi bf bk N M off cb a b F G del ins) (A : Apart4 bs ba bb bd bi bf bk)
    (ho : Only [bf, bk] w w') (hf : Arr w' bf (2 * off + 1) 3 (fun i => .int .i64 (F' i))) (hk : Arr w' bk (2 * off + 1) 3 (fun i => .int .i64 (G' i))) : KMem w' bs ao bo ba bb bd bi bf bk N M off cb a b F' G' del ins := by
  have ne : ∀ k : Nat, k ≠ bf → k ≠ bk → ¬ k ∈ [bf, bk] := fun k h1 h2 => by simp [h1, h2]
  exact ⟨h.S.keep (ho.block bs h.S.lt (ne _ A.s.2.2.1 A.s.2.2.2)), fun p => ⟨(h.ra p).1, ho.arr (h.ra p).2 (ne _ A.a.2.2.1 A.a.2.2.2)⟩, fun p => ⟨(h.rb p).1, ho.arr (h.rb p).2 (ne _ A.b.2.2.1 A.b.2.2.2)⟩,
    ho.arr h.rd (ne _ A.df A.dk), ho.arr h.ri (ne _ A.if_ A.ik), hf, hk⟩

/-- What 'compare' comes to on the part [alo, ahi) by [blo, bhi). -/
def CmpPost (bs : Nat) (ao bo : Option Addr) (ba bb bd bi bf bk N M off cb : Nat) (a b : Nat → Int) (del ins : Nat → Bool) (alo ahi blo bhi : Nat) (w : World) (e : Ending) (w' : World) : Prop :=
  e = .returned (.tuple #[]) ∧ ∃ (del' ins' : Nat → Bool) (F G : Nat → Int), KMem w' bs ao bo ba bb bd bi bf bk N M off cb a b F G del' ins' ∧ Only [bd, bi, bf, bk] w w' ∧ Good a b del' ins' (N + M ≤ cb) alo ahi blo bhi ∧
    (∀ i, i < alo ∨ ahi ≤ i → del' i = del i) ∧ (∀ j, j < blo ∨ bhi ≤ j → ins' j = ins j)

def CmpSpec (bs : Nat) (ao bo : Option Addr) (ba bb bd bi bf bk N M off cb : Nat) (a b : Nat → Int) (s : Nat) : Prop :=
  ∀ (alo ahi blo bhi : Nat) (A1 A2 B1 B2 : Int) (w : World) (F G : Nat → Int) (del ins : Nat → Bool), (ahi - alo) + (bhi - blo) ≤ s → alo ≤ ahi → ahi ≤ N → blo ≤ bhi → bhi ≤ M → A1 = alo → A2 = ahi → B1 = blo → B2 = bhi →
    KMem w bs ao bo ba bb bd bi bf bk N M off cb a b F G del ins → (∀ i, alo ≤ i → i < ahi → del i = false) → (∀ j, blo ≤ j → j < bhi → ins j = false) →
    Calls Try.prog 36 #[.pointer (some ⟨bs, 0, none⟩), .int .i64 A1, .int .i64 A2, .int .i64 B1, .int .i64 B2] w fun e w' => CmpPost bs ao bo ba bb bd bi bf bk N M off cb a b del ins alo ahi blo bhi w e w'

set_option maxRecDepth 100000 in
set_option maxHeartbeats 8000000 in
theorem compare_step (bs : Nat) (ao bo : Option Addr) (ba bb bd bi bf bk N M off cb : Nat) (a b : Nat → Int) (hN : N ≤ 1048576) (hM_ : M ≤ 1048576) (hoff : N + M + 2 ≤ off) (hoff2 : off ≤ 4194304) (hcb : 1 ≤ cb) (hcb2 : cb ≤ 4194304) (AP : Apart4 bs ba bb bd bi bf bk) (s : Nat)
    (IH : ∀ t, t < s → CmpSpec bs ao bo ba bb bd bi bf bk N M off cb a b t) : CmpSpec bs ao bo ba bb bd bi bf bk N M off cb a b s := by
  intro alo ahi blo bhi A1 A2 B1 B2 w F G del ins hs h1 h2 h3 h4 e1 e2 e3 e4 hM hdel hins
  subst e1 e2 e3 e4
  have HIH : Hid _ := IH
  have HD : Hid (∀ i, alo ≤ i → i < ahi → del i = false) := hdel
  have HI : Hid (∀ j, blo ≤ j → j < bhi → ins j = false) := hins
  clear IH hdel hins
  have fa := hM.S.fa
  have fb := hM.S.fb
  go_enter Try.func36, Try.ntmps36
  go_upto_block 0 with fail
  go_cut [1, 3] from 14 to 126 (fun s1 s3 wx => ∃ al bl : Nat, s1 = .int .i64 al ∧ s3 = .int .i64 bl ∧ alo ≤ al ∧ al ≤ ahi ∧ blo ≤ bl ∧ bl ≤ bhi ∧ Aside ((al = ahi ∨ bl = bhi ∨ a al ≠ b bl) ∧ ∀ d i, (∀ k, alo ≤ k → k < al → d k = false) → (∀ k, blo ≤ k → k < bl → i k = false) → Good a b d i (N + M ≤ cb) al ahi bl bhi → Good a b d i (N + M ≤ cb) alo ahi blo bhi) ∧ ∃ q, wx = w.drewN q)
  case first =>
    go_wp2_with fail
    go_loopg [1, 3] (ahi - alo) (fun gk s1 s3 wr => ∃ al bl : Nat, s1 = .int .i64 al ∧ s3 = .int .i64 bl ∧ alo ≤ al ∧ al ≤ ahi ∧ blo ≤ bl ∧ bl ≤ bhi ∧ ahi - al ≤ gk ∧ Aside (∀ d i, (∀ k, alo ≤ k → k < al → d k = false) → (∀ k, blo ≤ k → k < bl → i k = false) → Good a b d i (N + M ≤ cb) al ahi bl bhi → Good a b d i (N + M ≤ cb) alo ahi blo bhi) ∧ ∃ q, wr = w.drewN q)
    case atStart => exact ⟨alo, blo, rfl, rfl, Nat.le_refl _, h1, Nat.le_refl _, h3, Nat.le_refl _, fun d i _ _ h => h, 0, rfl⟩
    case round =>
      obtain ⟨al, bl, rfl, rfl, g1, g2, g3, g4, g5, hI, q, hw⟩ := hrel
      subst hw
      by_cases c1 : al < ahi
      · have c1I : (al : Int) < (ahi : Int) := by omega
        by_cases c2 : bl < bhi
        · have c2I : (bl : Int) < (bhi : Int) := by omega
          obtain ⟨rfl, ra⟩ := hM.ra (by omega)
          obtain ⟨rfl, rb⟩ := hM.rb (by omega)
          have x1 := ra.cell (j := al) (by omega)
          have x2 := rb.cell (j := bl) (by omega)
          by_cases hEq : a al = b bl
          · have hb : (a al == b bl) = true := by simpa using hEq
            have A' : Aside (∀ d i, (∀ k, alo ≤ k → k < al + 1 → d k = false) → (∀ k, blo ≤ k → k < bl + 1 → i k = false) → Good a b d i (N + M ≤ cb) (al + 1) ahi (bl + 1) bhi → Good a b d i (N + M ≤ cb) alo ahi blo bhi) :=
              fun d i p1 p2 p3 => hI.out d i (fun k k1 k2 => p1 k k1 (by omega)) (fun k k1 k2 => p2 k k1 (by omega)) (Good.head c1 c2 hEq (p1 al g1 (by omega)) (p2 bl g3 (by omega)) p3)
            clear hEq
            go_wp2_with fail
            go_quiet (fail)
            go_wp2_with fail
            go_roundg (gk - 1)
            case measure => omega
            case rel => exact ⟨al + 1, bl + 1, by go_num, by go_num, by omega, by omega, by omega, by omega, by omega, A', (by first | exact ⟨_, rfl⟩ | exact ⟨_, drewN_drewN _ _ _⟩)⟩
          · have hb : (a al == b bl) = false := by simpa using hEq
            have A' : Aside ((al = ahi ∨ bl = bhi ∨ a al ≠ b bl) ∧ ∀ d i, (∀ k, alo ≤ k → k < al → d k = false) → (∀ k, blo ≤ k → k < bl → i k = false) → Good a b d i (N + M ≤ cb) al ahi bl bhi → Good a b d i (N + M ≤ cb) alo ahi blo bhi) := ⟨.inr (.inr hEq), hI.out⟩
            clear hEq
            go_wp2_with fail
            go_quiet (fail)
            go_wp2_with fail
            go_meet
            case rel => exact ⟨al, bl, rfl, rfl, g1, g2, g3, g4, A', (by first | exact ⟨_, rfl⟩ | exact ⟨_, drewN_drewN _ _ _⟩)⟩
        · have A' : Aside ((al = ahi ∨ bl = bhi ∨ a al ≠ b bl) ∧ ∀ d i, (∀ k, alo ≤ k → k < al → d k = false) → (∀ k, blo ≤ k → k < bl → i k = false) → Good a b d i (N + M ≤ cb) al ahi bl bhi → Good a b d i (N + M ≤ cb) alo ahi blo bhi) := ⟨.inr (.inl (by omega)), hI.out⟩
          have d2 : decide ((bl : Int) < (bhi : Int)) = false := decide_eq_false (by omega)
          go_wp2_with fail
          go_quiet (fail)
          go_wp2_with fail
          go_meet
          case rel => exact ⟨al, bl, rfl, rfl, g1, g2, g3, g4, A', (by first | exact ⟨_, rfl⟩ | exact ⟨_, drewN_drewN _ _ _⟩)⟩
      · have A' : Aside ((al = ahi ∨ bl = bhi ∨ a al ≠ b bl) ∧ ∀ d i, (∀ k, alo ≤ k → k < al → d k = false) → (∀ k, blo ≤ k → k < bl → i k = false) → Good a b d i (N + M ≤ cb) al ahi bl bhi → Good a b d i (N + M ≤ cb) alo ahi blo bhi) := ⟨.inl (by omega), hI.out⟩
        have d1 : decide ((al : Int) < (ahi : Int)) = false := decide_eq_false (by omega)
        go_wp2_with fail
        go_quiet (fail)
        go_wp2_with fail
        go_meet
        case rel => exact ⟨al, bl, rfl, rfl, g1, g2, g3, g4, A', (by first | exact ⟨_, rfl⟩ | exact ⟨_, drewN_drewN _ _ _⟩)⟩
  case rest =>
  obtain ⟨al, bl, rfl, rfl, g1, g2, g3, g4, hP, q1, hw⟩ := hcut
  subst hw
  go_upto_block 2 with fail
  go_cut [2, 4] from 14 to 126 (fun s2 s4 wx => ∃ ah bh : Nat, s2 = .int .i64 ah ∧ s4 = .int .i64 bh ∧ al ≤ ah ∧ ah ≤ ahi ∧ bl ≤ bh ∧ bh ≤ bhi ∧ Aside ((al = ah ∨ bl = bh ∨ (a al ≠ b bl ∧ a (ah - 1) ≠ b (bh - 1))) ∧ ∀ d i, (∀ k, ah ≤ k → k < ahi → d k = false) → (∀ k, bh ≤ k → k < bhi → i k = false) → Good a b d i (N + M ≤ cb) al ah bl bh → Good a b d i (N + M ≤ cb) al ahi bl bhi) ∧ ∃ q, wx = w.drewN q)
  case first =>
    have hP1 : Aside (al = ahi ∨ bl = bhi ∨ a al ≠ b bl) := hP.out.1
    go_wp2_with fail
    go_loopg [2, 4] (ahi - al) (fun gk s2 s4 wr => ∃ ah bh : Nat, s2 = .int .i64 ah ∧ s4 = .int .i64 bh ∧ al ≤ ah ∧ ah ≤ ahi ∧ bl ≤ bh ∧ bh ≤ bhi ∧ ah - al ≤ gk ∧ Aside ((al = ah ∨ bl = bh ∨ a al ≠ b bl) ∧ ∀ d i, (∀ k, ah ≤ k → k < ahi → d k = false) → (∀ k, bh ≤ k → k < bhi → i k = false) → Good a b d i (N + M ≤ cb) al ah bl bh → Good a b d i (N + M ≤ cb) al ahi bl bhi) ∧ ∃ q, wr = w.drewN q)
    case atStart => exact ⟨ahi, bhi, rfl, rfl, g2, Nat.le_refl _, g4, Nat.le_refl _, Nat.le_refl _, ⟨hP1.out, fun d i _ _ h => h⟩, q1, rfl⟩
    case round =>
      obtain ⟨ah, bh, rfl, rfl, f1, f2, f3, f4, f5, hI, q, hw⟩ := hrel
      subst hw
      by_cases c1 : al < ah
      · have c1I : (al : Int) < (ah : Int) := by omega
        by_cases c2 : bl < bh
        · have c2I : (bl : Int) < (bh : Int) := by omega
          obtain ⟨rfl, ra⟩ := hM.ra (by omega)
          obtain ⟨rfl, rb⟩ := hM.rb (by omega)
          have x1 := ra.cell (j := ah - 1) (by omega)
          have x2 := rb.cell (j := bh - 1) (by omega)
          by_cases hEq : a (ah - 1) = b (bh - 1)
          · have hb : (a (ah - 1) == b (bh - 1)) = true := by simpa using hEq
            have A' : Aside ((al = ah - 1 ∨ bl = bh - 1 ∨ a al ≠ b bl) ∧ ∀ d i, (∀ k, ah - 1 ≤ k → k < ahi → d k = false) → (∀ k, bh - 1 ≤ k → k < bhi → i k = false) → Good a b d i (N + M ≤ cb) al (ah - 1) bl (bh - 1) → Good a b d i (N + M ≤ cb) al ahi bl bhi) :=
              ⟨by rcases hI.out.1 with h | h | h; omega; omega; exact .inr (.inr h), fun d i p1 p2 p3 => hI.out.2 d i (fun k k1 k2 => p1 k (by omega) k2) (fun k k1 k2 => p2 k (by omega) k2) (Good.last c1 c2 hEq (p1 (ah - 1) (Nat.le_refl _) (by omega)) (p2 (bh - 1) (Nat.le_refl _) (by omega)) p3)⟩
            clear hEq
            go_wp2_with fail
            go_quiet (fail)
            go_wp2_with fail
            go_roundg (gk - 1)
            case measure => omega
            case rel => exact ⟨ah - 1, bh - 1, by go_num, by go_num, by omega, by omega, by omega, by omega, by omega, A', (by first | exact ⟨_, rfl⟩ | exact ⟨_, drewN_drewN _ _ _⟩)⟩
          · have hb : (a (ah - 1) == b (bh - 1)) = false := by simpa using hEq
            have A' : Aside ((al = ah ∨ bl = bh ∨ (a al ≠ b bl ∧ a (ah - 1) ≠ b (bh - 1))) ∧ ∀ d i, (∀ k, ah ≤ k → k < ahi → d k = false) → (∀ k, bh ≤ k → k < bhi → i k = false) → Good a b d i (N + M ≤ cb) al ah bl bh → Good a b d i (N + M ≤ cb) al ahi bl bhi) :=
              ⟨by rcases hI.out.1 with h | h | h; omega; omega; exact .inr (.inr ⟨h, hEq⟩), hI.out.2⟩
            clear hEq
            go_wp2_with fail
            go_quiet (fail)
            go_wp2_with fail
            go_meet
            case rel => exact ⟨ah, bh, rfl, rfl, f1, f2, f3, f4, A', (by first | exact ⟨_, rfl⟩ | exact ⟨_, drewN_drewN _ _ _⟩)⟩
        · have A' : Aside ((al = ah ∨ bl = bh ∨ (a al ≠ b bl ∧ a (ah - 1) ≠ b (bh - 1))) ∧ ∀ d i, (∀ k, ah ≤ k → k < ahi → d k = false) → (∀ k, bh ≤ k → k < bhi → i k = false) → Good a b d i (N + M ≤ cb) al ah bl bh → Good a b d i (N + M ≤ cb) al ahi bl bhi) := ⟨.inr (.inl (by omega)), hI.out.2⟩
          have d2 : decide ((bl : Int) < (bh : Int)) = false := decide_eq_false (by omega)
          go_wp2_with fail
          go_quiet (fail)
          go_wp2_with fail
          go_meet
          case rel => exact ⟨ah, bh, rfl, rfl, f1, f2, f3, f4, A', (by first | exact ⟨_, rfl⟩ | exact ⟨_, drewN_drewN _ _ _⟩)⟩
      · have A' : Aside ((al = ah ∨ bl = bh ∨ (a al ≠ b bl ∧ a (ah - 1) ≠ b (bh - 1))) ∧ ∀ d i, (∀ k, ah ≤ k → k < ahi → d k = false) → (∀ k, bh ≤ k → k < bhi → i k = false) → Good a b d i (N + M ≤ cb) al ah bl bh → Good a b d i (N + M ≤ cb) al ahi bl bhi) := ⟨.inl (by omega), hI.out.2⟩
        have d1 : decide ((al : Int) < (ah : Int)) = false := decide_eq_false (by omega)
        go_wp2_with fail
        go_quiet (fail)
        go_wp2_with fail
        go_meet
        case rel => exact ⟨ah, bh, rfl, rfl, f1, f2, f3, f4, A', (by first | exact ⟨_, rfl⟩ | exact ⟨_, drewN_drewN _ _ _⟩)⟩
  case rest =>
  obtain ⟨ah, bh, rfl, rfl, f1, f2, f3, f4, hQ, q2, hw⟩ := hcut
  subst hw
  have hM1 := hM.drewN q2
  have hO1 : Only [bd, bi, bf, bk] w (w.drewN q2) := (Only.refl _ _).drewN q2
  -- whatever marks the core gets, the whole is a script
  have hfin : Aside (∀ d i, (∀ k, k < al ∨ ah ≤ k → d k = del k) → (∀ k, k < bl ∨ bh ≤ k → i k = ins k) → Good a b d i (N + M ≤ cb) al ah bl bh → Good a b d i (N + M ≤ cb) alo ahi blo bhi ∧ (∀ k, k < alo ∨ ahi ≤ k → d k = del k) ∧ (∀ k, k < blo ∨ bhi ≤ k → i k = ins k)) := by
    intro d i p1 p2 p3
    refine ⟨hP.out.2 d i (fun k k1 k2 => ?_) (fun k k1 k2 => ?_) (hQ.out.2 d i (fun k k1 k2 => ?_) (fun k k1 k2 => ?_) p3), fun k hk => p1 k (by omega), fun k hk => p2 k (by omega)⟩
    · rw [p1 k (.inl k2)]; exact HD.out k k1 (by omega)
    · rw [p2 k (.inl k2)]; exact HI.out k k1 (by omega)
    · rw [p1 k (.inr k1)]; exact HD.out k (by omega) k2
    · rw [p2 k (.inr k1)]; exact HI.out k (by omega) k2
  have hcore : Aside (al = ah ∨ bl = bh ∨ (a al ≠ b bl ∧ a (ah - 1) ≠ b (bh - 1))) := hQ.out.1
  clear hP hQ fa fb hM
  have fa := hM1.S.fa
  have fi := hM1.S.fi
  have fd := hM1.S.fd
  generalize w.drewN q2 = w1 at *
  by_cases c1 : al = ah
  · have hb1 : ((al : Int) == (ah : Int)) = true := by rw [beq_iff_eq]; omega
    have hfin2 : Aside (∀ i2 : Nat → Bool, (∀ k, bl ≤ k → k < bh → i2 k = true) → (∀ k, k < bl ∨ bh ≤ k → i2 k = ins k) → Good a b del i2 (N + M ≤ cb) alo ahi blo bhi ∧ (∀ k, k < blo ∨ bhi ≤ k → i2 k = ins k)) := by
      intro i2 p1 p2
      have hg := hfin.out del i2 (fun _ _ => rfl) p2 (by rw [← c1]; exact Good.insAll p1)
      exact ⟨hg.1, hg.2.2⟩
    clear c1 hfin hcore
    go_wp2_with fail
    go_loopg [10] (bh - bl) (fun gk j wr => ∃ (k : Nat) (i2 : Nat → Bool), j = .int .i64 k ∧ bl ≤ k ∧ k + gk = bh ∧ Aside ((∀ t, bl ≤ t → t < k → i2 t = true) ∧ (∀ t, t < bl ∨ k ≤ t → i2 t = ins t)) ∧ KMem wr bs ao bo ba bb bd bi bf bk N M off cb a b F G del i2 ∧ Only [bd, bi, bf, bk] w wr)
    case atStart => exact ⟨bl, ins, rfl, Nat.le_refl _, by omega, ⟨fun t t1 t2 => by omega, fun _ _ => rfl⟩, hM1, hO1⟩
    case round =>
      clear hM1 hO1 fa fi fd
      obtain ⟨k, i2, rfl, k1, k2, hA, hM2, hO2⟩ := hrel
      by_cases hk : k < bh
      · have fi := hM2.S.fi
        have x1 := hM2.ri.cell (j := k) (by omega)
        have x2 := hM2.ri.frozen k
        have A' : Aside ((∀ t, bl ≤ t → t < k + 1 → upd i2 k true t = true) ∧ (∀ t, t < bl ∨ k + 1 ≤ t → upd i2 k true t = ins t)) := by
          refine ⟨fun t t1 t2 => ?_, fun t ht => ?_⟩
          · by_cases h : t = k
            · rw [h, upd_same]
            · rw [upd_other _ _ h]; exact hA.out.1 t t1 (by omega)
          · rw [upd_other _ _ (by omega)]; exact hA.out.2 t (by omega)
        have hM3 := hM2.setI AP k true
        have hO3 := hO2.setCell (p := ⟨bi, k, none⟩) (fun _ => by simp) (.bool true)
        clear hM2 hO2 hA
        go_wp2_with fail
        go_roundg (gk - 1)
        case measure => omega
        case rel => exact ⟨k + 1, upd i2 k true, by go_num, by omega, by omega, A', hM3, hO3⟩
      · have hg := hfin2.out i2 (fun t t1 t2 => hA.out.1 t t1 (by omega)) (fun t ht => hA.out.2 t (by omega))
        have HG : Hid _ := hg
        clear hg
        go_wp2_with fail
        go_end0
        exact ⟨rfl, del, i2, F, G, hM2, hO2, HG.out.1, fun _ _ => rfl, HG.out.2⟩
  · have hb1 : ((al : Int) == (ah : Int)) = false := by rw [beq_eq_false_iff_ne]; omega
    by_cases c2 : bl = bh
    · have hb2 : ((bl : Int) == (bh : Int)) = true := by rw [beq_iff_eq]; omega
      have hfin2 : Aside (∀ d2 : Nat → Bool, (∀ k, al ≤ k → k < ah → d2 k = true) → (∀ k, k < al ∨ ah ≤ k → d2 k = del k) → Good a b d2 ins (N + M ≤ cb) alo ahi blo bhi ∧ (∀ k, k < alo ∨ ahi ≤ k → d2 k = del k)) := by
        intro d2 p1 p2
        have hg := hfin.out d2 ins p2 (fun _ _ => rfl) (by rw [← c2]; exact Good.delAll p1)
        exact ⟨hg.1, hg.2.1⟩
      clear c2 hfin hcore
      go_wp2_with fail
      go_loopg [11] (ah - al) (fun gk j wr => ∃ (k : Nat) (d2 : Nat → Bool), j = .int .i64 k ∧ al ≤ k ∧ k + gk = ah ∧ Aside ((∀ t, al ≤ t → t < k → d2 t = true) ∧ (∀ t, t < al ∨ k ≤ t → d2 t = del t)) ∧ KMem wr bs ao bo ba bb bd bi bf bk N M off cb a b F G d2 ins ∧ Only [bd, bi, bf, bk] w wr)
      case atStart => exact ⟨al, del, rfl, Nat.le_refl _, by omega, ⟨fun t t1 t2 => by omega, fun _ _ => rfl⟩, hM1, hO1⟩
      case round =>
        clear hM1 hO1 fa fi fd
        obtain ⟨k, d2, rfl, k1, k2, hA, hM2, hO2⟩ := hrel
        by_cases hk : k < ah
        · have fd := hM2.S.fd
          have x1 := hM2.rd.cell (j := k) (by omega)
          have x2 := hM2.rd.frozen k
          have A' : Aside ((∀ t, al ≤ t → t < k + 1 → upd d2 k true t = true) ∧ (∀ t, t < al ∨ k + 1 ≤ t → upd d2 k true t = del t)) := by
            refine ⟨fun t t1 t2 => ?_, fun t ht => ?_⟩
            · by_cases h : t = k
              · rw [h, upd_same]
              · rw [upd_other _ _ h]; exact hA.out.1 t t1 (by omega)
            · rw [upd_other _ _ (by omega)]; exact hA.out.2 t (by omega)
          have hM3 := hM2.setD AP k true
          have hO3 := hO2.setCell (p := ⟨bd, k, none⟩) (fun _ => by simp) (.bool true)
          clear hM2 hO2 hA
          go_wp2_with fail
          go_roundg (gk - 1)
          case measure => omega
          case rel => exact ⟨k + 1, upd d2 k true, by go_num, by omega, by omega, A', hM3, hO3⟩
        · have hg := hfin2.out d2 (fun t t1 t2 => hA.out.1 t t1 (by omega)) (fun t ht => hA.out.2 t (by omega))
          have HG : Hid _ := hg
          clear hg
          go_wp2_with fail
          go_end0
          exact ⟨rfl, d2, ins, F, G, hM2, hO2, HG.out.1, HG.out.2, fun _ _ => rfl⟩
    · have hb2 : ((bl : Int) == (bh : Int)) = false := by rw [beq_eq_false_iff_ne]; omega
      have hne : a al ≠ b bl ∧ a (ah - 1) ≠ b (bh - 1) := by rcases hcore.out with h | h | h; omega; omega; exact h
      obtain ⟨rfl, ra⟩ := hM1.ra (by omega)
      obtain ⟨rfl, rb⟩ := hM1.rb (by omega)
      have hsp := split_any bs ba bb bf bk N M off cb al (ah - al) bl (bh - bl) a b F G _ _ w1 hN hM_ (by omega) (by omega) (by omega) (by omega) hoff hoff2 hcb hcb2 hM1.S ra rb hM1.rf hM1.rk
        ⟨AP.fk, AP.s.2.2.1, AP.s.2.2.2, AP.a.2.2.1, AP.a.2.2.2, AP.b.2.2.1, AP.b.2.2.2, hM1.rf.lt, hM1.rk.lt⟩ hne.1 (by rw [show al + (ah - al) - 1 = ah - 1 by omega, show bl + (bh - bl) - 1 = bh - 1 by omega]; exact hne.2)
      rw [show al + (ah - al) = ah by omega, show bl + (bh - bl) = bh by omega] at hsp
      have HSP : Hid _ := hsp
      clear hsp hne hcore ra rb fa fi fd
      go_wp2_with fail
      refine Calls.mono HSP.out ?_
      rintro e w2 ⟨x, y, rfl, hok, hopt, F2, G2, hF2, hG2, ho2⟩
      obtain ⟨x0, xn, y0, ym, ns, ne⟩ := hok
      obtain ⟨X, rfl⟩ := Int.eq_ofNat_of_zero_le x0
      obtain ⟨Y, rfl⟩ := Int.eq_ofNat_of_zero_le y0
      have hM2 := hM1.split AP ho2 hF2 hG2
      have hO2 : Only [bd, bi, bf, bk] w w2 := hO1.trans (ho2.mono (by simp))
      have HOPT : Hid (N + M ≤ cb → Lx a b al X bl Y + Lx a b (al + X) (ah - al - X) (bl + Y) (bh - bl - Y) = Lx a b al (ah - al) bl (bh - bl)) := fun h => opt_Lx (by omega) (by omega) (hopt (by omega))
      have hX : X ≤ ah - al := by omega
      have hY : Y ≤ bh - bl := by omega
      have hlt1 : X + Y < (ah - al) + (bh - bl) := by omega
      have hlt2 : 0 < X + Y := by omega
      clear HSP hM1 hO1 ho2 hF2 hG2 hopt x0 xn y0 ym ns ne
      go_wp2_with fail
      refine Calls.mono (HIH.out (X + Y) (by omega) al (al + X) bl (bl + Y) _ _ _ _ w2 F2 G2 del ins (by omega) (by omega) (by omega) (by omega) (by omega) rfl (by omega) rfl (by omega) hM2 (fun i i1 i2 => HD.out i (by omega) (by omega)) (fun i i1 i2 => HI.out i (by omega) (by omega))) ?_
      rintro e w3 ⟨rfl, del1, ins1, F3, G3, hM3, hO3, hG3, hd3, hi3⟩
      have HG3 : Hid _ := hG3
      have HD3 : Hid _ := hd3
      have HI3 : Hid _ := hi3
      clear hG3 hd3 hi3 hM2
      go_wp2_with fail
      refine Calls.mono (HIH.out ((ah - (al + X)) + (bh - (bl + Y))) (by omega) (al + X) ah (bl + Y) bh _ _ _ _ w3 F3 G3 del1 ins1 (Nat.le_refl _) (by omega) (by omega) (by omega) (by omega) (by omega) rfl (by omega) rfl hM3 (fun i i1 i2 => by rw [HD3.out i (.inr i1)]; exact HD.out i (by omega) (by omega)) (fun i i1 i2 => by rw [HI3.out i (.inr i1)]; exact HI.out i (by omega) (by omega))) ?_
      rintro e w4 ⟨rfl, del2, ins2, F4, G4, hM4, hO4, hG4, hd4, hi4⟩
      have hcat : Good a b del2 ins2 (N + M ≤ cb) al ah bl bh := by
        refine Good.cat (x := al + X) (y := bl + Y) (by omega) (by omega) (by omega) (by omega) (Good.congr HG3.out (fun j j1 j2 => (hd4 j (.inl j2)).symm) (fun j j1 j2 => (hi4 j (.inl j2)).symm)) hG4 (fun h => ?_)
        have := HOPT.out h
        rw [show al + X - al = X by omega, show bl + Y - bl = Y by omega, show ah - (al + X) = ah - al - X by omega, show bh - (bl + Y) = bh - bl - Y by omega]
        exact this
      have hg := hfin.out del2 ins2 (fun k hk => by rw [hd4 k (by omega), HD3.out k (by omega)]) (fun k hk => by rw [hi4 k (by omega), HI3.out k (by omega)]) hcat
      have HG : Hid _ := hg
      clear hg hcat hG4 hd4 hi4
      go_wp2_with fail
      go_end0
      exact ⟨rfl, del2, ins2, F4, G4, hM4, (hO2.trans hO3).trans hO4, HG.out.1, HG.out.2.1, HG.out.2.2⟩

theorem compare_any (bs : Nat) (ao bo : Option Addr) (ba bb bd bi bf bk N M off cb : Nat) (a b : Nat → Int) (hN : N ≤ 1048576) (hM_ : M ≤ 1048576) (hoff : N + M + 2 ≤ off) (hoff2 : off ≤ 4194304) (hcb : 1 ≤ cb) (hcb2 : cb ≤ 4194304) (AP : Apart4 bs ba bb bd bi bf bk) (s : Nat) :
    CmpSpec bs ao bo ba bb bd bi bf bk N M off cb a b s := by
  induction s using Nat.strongRecOn with
  | _ s ih => exact compare_step bs ao bo ba bb bd bi bf bk N M off cb a b hN hM_ hoff hoff2 hcb hcb2 AP s ih

end Go.Proofs.Qxb6600671a
