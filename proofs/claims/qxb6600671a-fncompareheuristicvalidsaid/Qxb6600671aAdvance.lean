/- 'advance', walked at each of its two closures. -/
import Derived.Test.Qxb6600671aSearchMem
import Derived.Test.Qxb6600671aMeet
import Derived.Deep.DeepCutAuto
import Derived.Deep.CutBlock
import Derived.Deep.LoopGhost
namespace Go.Proofs.Qxb6600671a
open Go.RowKit

/-- What 'equal' and 'advance' read of memory. -/
structure QMem (w : World) (p5 p6 p8 bs ba bb N M A B off : Nat) (a b : Nat → Int) : Prop where
  c5 : w.cell? ⟨p5, 0, none⟩ = some (.pointer (some ⟨bs, 0, none⟩))
  c6 : w.cell? ⟨p6, 0, none⟩ = some (.int .i64 A)
  c8 : w.cell? ⟨p8, 0, none⟩ = some (.int .i64 B)
  fa : w.cell? ⟨bs, 0, none⟩ = some (.slice (some ⟨ba, 0, none⟩) N N)
  fb : w.cell? ⟨bs, 1, none⟩ = some (.slice (some ⟨bb, 0, none⟩) M M)
  fo : w.cell? ⟨bs, 6, none⟩ = some (.int .i64 off)
  ra : Arr w ba N 3 (fun i => .int .i64 (a i))
  rb : Arr w bb M 3 (fun i => .int .i64 (b i))

theorem QMem.keep {w w' : World} {p5 p6 p8 bs ba bb N M A B off : Nat} {a b : Nat → Int} (h : QMem w p5 p6 p8 bs ba bb N M A B off a b)
    (k5 : w'.heap[p5]? = w.heap[p5]?) (k6 : w'.heap[p6]? = w.heap[p6]?) (k8 : w'.heap[p8]? = w.heap[p8]?) (ks : w'.heap[bs]? = w.heap[bs]?) (ka : w'.heap[ba]? = w.heap[ba]?) (kb : w'.heap[bb]? = w.heap[bb]?) :
    QMem w' p5 p6 p8 bs ba bb N M A B off a b :=
  ⟨(World.cell?_of_block (a := ⟨p5, 0, none⟩) k5).trans h.c5, (World.cell?_of_block (a := ⟨p6, 0, none⟩) k6).trans h.c6, (World.cell?_of_block (a := ⟨p8, 0, none⟩) k8).trans h.c8,
    (World.cell?_of_block (a := ⟨bs, 0, none⟩) ks).trans h.fa, (World.cell?_of_block (a := ⟨bs, 1, none⟩) ks).trans h.fb, (World.cell?_of_block (a := ⟨bs, 6, none⟩) ks).trans h.fo, h.ra.keep ka, h.rb.keep kb⟩

theorem QMem.drewN {w : World} {p5 p6 p8 bs ba bb N M A B off : Nat} {a b : Nat → Int} (h : QMem w p5 p6 p8 bs ba bb N M A B off a b) (q : Nat) : QMem (w.drewN q) p5 p6 p8 bs ba bb N M A B off a b :=
  h.keep rfl rfl rfl rfl rfl rfl

/-- Where 'advance' stands ahead of the diagonal above. -/
def cand1 (n k d lo : Int) : Int := if -d < k ∧ 0 ≤ lo ∧ lo + 1 ≤ n then lo + 1 else if d = 0 then 0 else -1

theorem cand_eq (n m k d lo hi : Int) : cand n m k d lo hi = if k < d ∧ cand1 n k d lo ≤ hi ∧ hi - k ≤ m then hi else cand1 n k d lo := rfl

theorem ints_upd (V : Nat → Int) (k : Nat) (v : Int) (j : Nat) : upd (fun i => Value.int .i64 (V i)) k (.int .i64 v) j = .int .i64 (upd V k v j) := by
  by_cases h : j = k
  · subst h; simp [upd]
  · simp [upd, h]

theorem drewN_drewN (w : World) (p q : Nat) : (w.drewN p).drewN q = w.drewN (p + q) := by
  simp [World.drewN, Nat.add_assoc]

theorem Snake.stay {n m k : Int} {mt : Int → Int → Prop} {c : Int} (h : c < 0) : Snake n m k mt c c := ⟨fun _ => rfl, fun h2 => by omega⟩

set_option maxRecDepth 100000 in
set_option maxHeartbeats 2000000 in
theorem advanceFwd (p5 p6 p8 bs ba bb bv N M A B off : Nat) (a b V : Nat → Int) (k d n m : Int) (w : World) (hN : N ≤ 1048576) (hM : M ≤ 1048576) (hoff : off ≤ 4194304)
    (hd0 : 0 ≤ d) (hk1 : -d ≤ k) (hk2 : k ≤ d) (ho1 : d + 1 ≤ off) (hbA : (A : Int) + n ≤ N) (hbB : (B : Int) + m ≤ M)
    (hlo : -d < k → -1 ≤ V ((↑off + k).toNat - 1) ∧ V ((↑off + k).toNat - 1) ≤ n) (hhi : k < d → -1 ≤ V (↑off + k + 1).toNat ∧ V (↑off + k + 1).toNat ≤ n)
    (hck : 0 ≤ cand n m k d (V ((↑off + k).toNat - 1)) (V (↑off + k + 1).toNat) → 0 ≤ cand n m k d (V ((↑off + k).toNat - 1)) (V (↑off + k + 1).toNat) - k)
    (hQ : QMem w p5 p6 p8 bs ba bb N M A B off a b) (hV : Arr w bv (2 * off + 1) 3 (fun i => .int .i64 (V i))) :
    Calls Try.prog 41 #[.pointer (some ⟨bs, 0, none⟩), .slice (some ⟨bv, 0, none⟩) (2 * off + 1) (2 * off + 1), .int .i64 k, .int .i64 d, .int .i64 n, .int .i64 m, .func (.func 39) #[] #[.pointer (some ⟨p5, 0, none⟩), .pointer (some ⟨p6, 0, none⟩), .pointer (some ⟨p8, 0, none⟩)]] w fun e w' =>
      ∃ x : Int, e = .returned (.int .i64 x) ∧ Snake n m k (fun t u => a (A + t.toNat) = b (B + u.toNat)) (cand n m k d (V ((↑off + k).toNat - 1)) (V (↑off + k + 1).toNat)) x ∧ Arr w' bv (2 * off + 1) 3 (fun i => .int .i64 (upd V (↑off + k).toNat x i)) ∧ Only [bv] w w' := by
  have hfo := hQ.fo
  have hCK : Hid _ := hck
  have hLO : Hid _ := hlo
  have hHI : Hid _ := hhi
  clear hck hlo hhi
  generalize hloe : V ((↑off + k).toNat - 1) = lo at *
  generalize hhie : V (↑off + k + 1).toNat = hi at *
  have clo : -d < k → w.cell? ⟨bv, (↑off + k).toNat - 1, none⟩ = some (.int .i64 lo) := fun h => by rw [← hloe]; exact hV.cell (by omega)
  have chi : k < d → w.cell? ⟨bv, (↑off + k + 1).toNat, none⟩ = some (.int .i64 hi) := fun h => by rw [← hhie]; exact hV.cell (by omega)
  have CLO : Hid _ := clo
  have CHI : Hid _ := chi
  clear clo chi hloe hhie
  go_enter Try.func41, Try.ntmps41
  go_upto_if 19 with fail
  go_cut [15] (fun s wx => wx = w ∧ ∃ x0 : Int, s = .int .i64 x0 ∧ -1 ≤ x0 ∧ x0 ≤ 0 ∧ Aside (x0 = if d = 0 then 0 else -1))
  case first =>
    by_cases h : d = 0
    · have hb : (d == 0) = true := by simpa using h
      have HD : Hid (d = 0) := h
      clear h
      go_wp2_with fail
      go_meet
      case rel => exact ⟨rfl, 0, rfl, by omega, by omega, (if_pos HD.out).symm⟩
    · have hb : (d == 0) = false := by simpa using h
      have HD : Hid (¬ d = 0) := h
      clear h
      go_wp2_with fail
      go_meet
      case rel => exact ⟨rfl, -1, rfl, by omega, by omega, (if_neg HD.out).symm⟩
  case rest =>
  obtain ⟨hw, x0, rfl, hx0a, hx0b, hX0⟩ := hcut
  subst hw
  go_upto_if 23 with fail
  go_cut [15] (fun s wx => wx = wc ∧ ∃ x1 : Int, s = .int .i64 x1 ∧ -1 ≤ x1 ∧ x1 ≤ 1048577 ∧ Aside (x1 = cand1 n k d lo))
  case first =>
    by_cases h : -d < k
    · have hcl := CLO.out h
      obtain ⟨hl1, hl2⟩ := hLO.out h
      by_cases h2 : 0 ≤ lo
      · by_cases h3 : lo + 1 ≤ n
        · have HC : Hid (lo + 1 = cand1 n k d lo) := (if_pos ⟨h, h2, h3⟩).symm
          go_wp2_with fail
          go_meet
          case rel => exact ⟨rfl, lo + 1, rfl, by omega, by omega, HC.out⟩
        · have HC : Hid (x0 = cand1 n k d lo) := hX0.out.trans (if_neg (fun hh => h3 hh.2.2)).symm
          go_wp2_with fail
          go_meet
          case rel => exact ⟨rfl, x0, rfl, by omega, by omega, HC.out⟩
      · have HC : Hid (x0 = cand1 n k d lo) := hX0.out.trans (if_neg (fun hh => h2 hh.2.1)).symm
        go_wp2_with fail
        go_meet
        case rel => exact ⟨rfl, x0, rfl, by omega, by omega, HC.out⟩
    · have HC : Hid (x0 = cand1 n k d lo) := hX0.out.trans (if_neg (fun hh => h hh.1)).symm
      go_wp2_with fail
      go_meet
      case rel => exact ⟨rfl, x0, rfl, by omega, by omega, HC.out⟩
  case rest =>
  obtain ⟨hw, c1, rfl, hc1a, hc1b, hC1⟩ := hcut
  subst hw
  have HCE : Hid (cand n m k d lo hi = if k < d ∧ c1 ≤ hi ∧ hi - k ≤ m then hi else c1) := by rw [hC1.out]; exact cand_eq n m k d lo hi
  clear hx0a hx0b hX0 hC1
  obtain ⟨w2, rfl⟩ : ∃ w2 : World, w2 = wc := ⟨_, rfl⟩
  go_upto_if 46 with fail
  go_cut [15] (fun s wx => wx = w2 ∧ ∃ c : Int, s = .int .i64 c ∧ -1 ≤ c ∧ c ≤ 1048577 ∧ Aside (c = cand n m k d lo hi))
  case first =>
    by_cases h : k < d
    · have hch := CHI.out h
      obtain ⟨hh1, hh2⟩ := hHI.out h
      by_cases h2 : c1 ≤ hi
      · by_cases h3 : hi - k ≤ m
        · have HC : Hid (hi = cand n m k d lo hi) := (HCE.out.trans (if_pos ⟨h, h2, h3⟩)).symm
          go_wp2_with fail
          go_meet
          case rel => exact ⟨rfl, hi, rfl, by omega, by omega, HC.out⟩
        · have HC : Hid (c1 = cand n m k d lo hi) := (HCE.out.trans (if_neg (fun hh => h3 hh.2.2))).symm
          go_wp2_with fail
          go_meet
          case rel => exact ⟨rfl, c1, rfl, by omega, by omega, HC.out⟩
      · have HC : Hid (c1 = cand n m k d lo hi) := (HCE.out.trans (if_neg (fun hh => h2 hh.2.1))).symm
        go_wp2_with fail
        go_meet
        case rel => exact ⟨rfl, c1, rfl, by omega, by omega, HC.out⟩
    · have HC : Hid (c1 = cand n m k d lo hi) := (HCE.out.trans (if_neg (fun hh => h hh.1))).symm
      go_wp2_with fail
      go_meet
      case rel => exact ⟨rfl, c1, rfl, by omega, by omega, HC.out⟩
  case rest =>
  obtain ⟨hw, c, rfl, hca, hcb, hC⟩ := hcut
  subst hw
  have hCK2 : Hid (0 ≤ c → 0 ≤ c - k) := by have h1 := hC.out; subst h1; exact hCK.out
  have HG : Hid (cand n m k d lo hi = c) := hC.out.symm
  clear hCK hLO hHI CLO CHI HCE hc1a hc1b hC hfo
  obtain ⟨w3, rfl⟩ : ∃ w3 : World, w3 = wc := ⟨_, rfl⟩
  go_upto_if 69 with fail
  go_cut [15] from 18 to 99 (fun s wx => ∃ x : Int, s = .int .i64 x ∧ Aside (Snake n m k (fun t u => a (A + t.toNat) = b (B + u.toNat)) c x) ∧ ∃ q, wx = w3.drewN q)
  case first =>
    by_cases hc0 : 0 ≤ c
    · have hck := hCK2.out hc0
      simp only [decide_eq_true hc0]
      go_wp2_with fail
      go_loopg [15] (n - c).toNat (fun gk s wr => ∃ x : Int, s = .int .i64 x ∧ c ≤ x ∧ (x ≤ n ∨ x = c) ∧ (n - x).toNat ≤ gk ∧ Aside (∀ t, c ≤ t → t < x → t < n ∧ t - k < m ∧ (fun t u : Int => a (A + t.toNat) = b (B + u.toNat)) t (t - k)) ∧ ∃ q, wr = w3.drewN q)
      case atStart => exact ⟨c, rfl, Int.le_refl _, .inr rfl, Nat.le_refl _, fun t h1 h2 => by omega, 0, rfl⟩
      case round =>
        obtain ⟨x, rfl, hcx, hxn, hgx, hAll, q, hw⟩ := hrel
        subst hw
        by_cases h1 : x < n
        · by_cases h2 : x - k < m
          · have hcall := fwdEqual_any p5 p6 p8 bs ba bb N M A B a b x (x - k) (w3.drewN q) hN hM (by omega) (by omega) (by omega) (by omega) (hQ.drewN q).c5 (hQ.drewN q).c6 (hQ.drewN q).c8 (hQ.drewN q).fa (hQ.drewN q).fb (hQ.drewN q).ra (hQ.drewN q).rb
            cases hb : (a (A + x.toNat) == b (B + (x - k).toNat))
            · rw [hb] at hcall
              have HC : Hid _ := hcall
              have HS : Aside (Snake n m k (fun t u => a (A + t.toNat) = b (B + u.toNat)) c x) := ⟨fun h => by omega, fun _ => ⟨hcx, hAll.out, fun hh => by have h5 : (a (A + x.toNat) == b (B + (x - k).toNat)) = true := beq_iff_eq.2 hh.2.2; rw [hb] at h5; cases h5⟩⟩
              clear hcall hb
              go_wp2_with (go_at_call 39; refine Calls.mono HC.out ?_; rintro e w' ⟨rfl, q2, rfl⟩)
              go_meet
              case rel => exact ⟨x, rfl, HS, q + q2, by first | rfl | rw [drewN_drewN]⟩
            · rw [hb] at hcall
              have HC : Hid _ := hcall
              have HS : Aside (∀ t, c ≤ t → t < x + 1 → t < n ∧ t - k < m ∧ (fun t u : Int => a (A + t.toNat) = b (B + u.toNat)) t (t - k)) := fun t h3 h4 => if h : t = x then by subst h; exact ⟨h1, h2, beq_iff_eq.1 hb⟩ else hAll.out t h3 (by omega)
              clear hcall hb
              go_wp2_with (go_at_call 39; refine Calls.mono HC.out ?_; rintro e w' ⟨rfl, q2, rfl⟩)
              go_roundg (gk - 1)
              case measure => omega
              case rel => exact ⟨x + 1, rfl, by omega, by omega, by omega, HS, q + q2, by first | rfl | rw [drewN_drewN]⟩
          · have HS : Aside (Snake n m k (fun t u => a (A + t.toNat) = b (B + u.toNat)) c x) := ⟨fun h => by omega, fun _ => ⟨hcx, hAll.out, fun hh => h2 hh.2.1⟩⟩
            go_wp2_with fail
            go_meet
            case rel => exact ⟨x, rfl, HS, q, rfl⟩
        · have HS : Aside (Snake n m k (fun t u => a (A + t.toNat) = b (B + u.toNat)) c x) := ⟨fun h => by omega, fun _ => ⟨hcx, hAll.out, fun hh => h1 hh.1⟩⟩
          go_wp2_with fail
          go_meet
          case rel => exact ⟨x, rfl, HS, q, rfl⟩
    · have HS : Aside (Snake n m k (fun t u => a (A + t.toNat) = b (B + u.toNat)) c c) := Snake.stay (by omega)
      go_wp2_with fail
      go_meet
      case rel => exact ⟨c, rfl, HS, 0, rfl⟩
  case rest =>
  obtain ⟨x, rfl, hS, q, hw⟩ := hcut
  subst hw
  have hfo := hQ.fo
  have hcv := hV.cell (j := (↑off + k).toNat) (by omega)
  have hfv := hV.frozen (↑off + k).toNat
  go_wp2_with fail
  go_ret
  refine ⟨x, rfl, by rw [HG.out]; exact hS.out, ?_, ?_⟩
  · exact ((hV.keep (w' := w3.drewN q) rfl).set (↑off + k).toNat (.int .i64 x)).congr (fun j _ => ints_upd V _ x j)
  · exact ((Only.refl [bv] w3).drewN q).setCell (fun _ => by simp) _

set_option maxRecDepth 100000 in
set_option maxHeartbeats 2000000 in
theorem advanceBwd (p5 p6 p8 bs ba bb bv N M A B off : Nat) (a b V : Nat → Int) (k d n m : Int) (w : World) (hN : N ≤ 1048576) (hM : M ≤ 1048576) (hoff : off ≤ 4194304)
    (hd0 : 0 ≤ d) (hk1 : -d ≤ k) (hk2 : k ≤ d) (ho1 : d + 1 ≤ off) (hbA : n ≤ A) (hbB : m ≤ B) (hAN : A ≤ N) (hBM : B ≤ M)
    (hlo : -d < k → -1 ≤ V ((↑off + k).toNat - 1) ∧ V ((↑off + k).toNat - 1) ≤ n) (hhi : k < d → -1 ≤ V (↑off + k + 1).toNat ∧ V (↑off + k + 1).toNat ≤ n)
    (hck : 0 ≤ cand n m k d (V ((↑off + k).toNat - 1)) (V (↑off + k + 1).toNat) → 0 ≤ cand n m k d (V ((↑off + k).toNat - 1)) (V (↑off + k + 1).toNat) - k)
    (hQ : QMem w p5 p6 p8 bs ba bb N M A B off a b) (hV : Arr w bv (2 * off + 1) 3 (fun i => .int .i64 (V i))) :
    Calls Try.prog 41 #[.pointer (some ⟨bs, 0, none⟩), .slice (some ⟨bv, 0, none⟩) (2 * off + 1) (2 * off + 1), .int .i64 k, .int .i64 d, .int .i64 n, .int .i64 m, .func (.func 40) #[] #[.pointer (some ⟨p5, 0, none⟩), .pointer (some ⟨p6, 0, none⟩), .pointer (some ⟨p8, 0, none⟩)]] w fun e w' =>
      ∃ x : Int, e = .returned (.int .i64 x) ∧ Snake n m k (fun t u => a (A - 1 - t.toNat) = b (B - 1 - u.toNat)) (cand n m k d (V ((↑off + k).toNat - 1)) (V (↑off + k + 1).toNat)) x ∧ Arr w' bv (2 * off + 1) 3 (fun i => .int .i64 (upd V (↑off + k).toNat x i)) ∧ Only [bv] w w' := by
  have hfo := hQ.fo
  have hCK : Hid _ := hck
  have hLO : Hid _ := hlo
  have hHI : Hid _ := hhi
  clear hck hlo hhi
  generalize hloe : V ((↑off + k).toNat - 1) = lo at *
  generalize hhie : V (↑off + k + 1).toNat = hi at *
  have clo : -d < k → w.cell? ⟨bv, (↑off + k).toNat - 1, none⟩ = some (.int .i64 lo) := fun h => by rw [← hloe]; exact hV.cell (by omega)
  have chi : k < d → w.cell? ⟨bv, (↑off + k + 1).toNat, none⟩ = some (.int .i64 hi) := fun h => by rw [← hhie]; exact hV.cell (by omega)
  have CLO : Hid _ := clo
  have CHI : Hid _ := chi
  clear clo chi hloe hhie
  go_enter Try.func41, Try.ntmps41
  go_upto_if 19 with fail
  go_cut [15] (fun s wx => wx = w ∧ ∃ x0 : Int, s = .int .i64 x0 ∧ -1 ≤ x0 ∧ x0 ≤ 0 ∧ Aside (x0 = if d = 0 then 0 else -1))
  case first =>
    by_cases h : d = 0
    · have hb : (d == 0) = true := by simpa using h
      have HD : Hid (d = 0) := h
      clear h
      go_wp2_with fail
      go_meet
      case rel => exact ⟨rfl, 0, rfl, by omega, by omega, (if_pos HD.out).symm⟩
    · have hb : (d == 0) = false := by simpa using h
      have HD : Hid (¬ d = 0) := h
      clear h
      go_wp2_with fail
      go_meet
      case rel => exact ⟨rfl, -1, rfl, by omega, by omega, (if_neg HD.out).symm⟩
  case rest =>
  obtain ⟨hw, x0, rfl, hx0a, hx0b, hX0⟩ := hcut
  subst hw
  go_upto_if 23 with fail
  go_cut [15] (fun s wx => wx = wc ∧ ∃ x1 : Int, s = .int .i64 x1 ∧ -1 ≤ x1 ∧ x1 ≤ 1048577 ∧ Aside (x1 = cand1 n k d lo))
  case first =>
    by_cases h : -d < k
    · have hcl := CLO.out h
      obtain ⟨hl1, hl2⟩ := hLO.out h
      by_cases h2 : 0 ≤ lo
      · by_cases h3 : lo + 1 ≤ n
        · have HC : Hid (lo + 1 = cand1 n k d lo) := (if_pos ⟨h, h2, h3⟩).symm
          go_wp2_with fail
          go_meet
          case rel => exact ⟨rfl, lo + 1, rfl, by omega, by omega, HC.out⟩
        · have HC : Hid (x0 = cand1 n k d lo) := hX0.out.trans (if_neg (fun hh => h3 hh.2.2)).symm
          go_wp2_with fail
          go_meet
          case rel => exact ⟨rfl, x0, rfl, by omega, by omega, HC.out⟩
      · have HC : Hid (x0 = cand1 n k d lo) := hX0.out.trans (if_neg (fun hh => h2 hh.2.1)).symm
        go_wp2_with fail
        go_meet
        case rel => exact ⟨rfl, x0, rfl, by omega, by omega, HC.out⟩
    · have HC : Hid (x0 = cand1 n k d lo) := hX0.out.trans (if_neg (fun hh => h hh.1)).symm
      go_wp2_with fail
      go_meet
      case rel => exact ⟨rfl, x0, rfl, by omega, by omega, HC.out⟩
  case rest =>
  obtain ⟨hw, c1, rfl, hc1a, hc1b, hC1⟩ := hcut
  subst hw
  have HCE : Hid (cand n m k d lo hi = if k < d ∧ c1 ≤ hi ∧ hi - k ≤ m then hi else c1) := by rw [hC1.out]; exact cand_eq n m k d lo hi
  clear hx0a hx0b hX0 hC1
  obtain ⟨w2, rfl⟩ : ∃ w2 : World, w2 = wc := ⟨_, rfl⟩
  go_upto_if 46 with fail
  go_cut [15] (fun s wx => wx = w2 ∧ ∃ c : Int, s = .int .i64 c ∧ -1 ≤ c ∧ c ≤ 1048577 ∧ Aside (c = cand n m k d lo hi))
  case first =>
    by_cases h : k < d
    · have hch := CHI.out h
      obtain ⟨hh1, hh2⟩ := hHI.out h
      by_cases h2 : c1 ≤ hi
      · by_cases h3 : hi - k ≤ m
        · have HC : Hid (hi = cand n m k d lo hi) := (HCE.out.trans (if_pos ⟨h, h2, h3⟩)).symm
          go_wp2_with fail
          go_meet
          case rel => exact ⟨rfl, hi, rfl, by omega, by omega, HC.out⟩
        · have HC : Hid (c1 = cand n m k d lo hi) := (HCE.out.trans (if_neg (fun hh => h3 hh.2.2))).symm
          go_wp2_with fail
          go_meet
          case rel => exact ⟨rfl, c1, rfl, by omega, by omega, HC.out⟩
      · have HC : Hid (c1 = cand n m k d lo hi) := (HCE.out.trans (if_neg (fun hh => h2 hh.2.1))).symm
        go_wp2_with fail
        go_meet
        case rel => exact ⟨rfl, c1, rfl, by omega, by omega, HC.out⟩
    · have HC : Hid (c1 = cand n m k d lo hi) := (HCE.out.trans (if_neg (fun hh => h hh.1))).symm
      go_wp2_with fail
      go_meet
      case rel => exact ⟨rfl, c1, rfl, by omega, by omega, HC.out⟩
  case rest =>
  obtain ⟨hw, c, rfl, hca, hcb, hC⟩ := hcut
  subst hw
  have hCK2 : Hid (0 ≤ c → 0 ≤ c - k) := by have h1 := hC.out; subst h1; exact hCK.out
  have HG : Hid (cand n m k d lo hi = c) := hC.out.symm
  clear hCK hLO hHI CLO CHI HCE hc1a hc1b hC hfo
  obtain ⟨w3, rfl⟩ : ∃ w3 : World, w3 = wc := ⟨_, rfl⟩
  go_upto_if 69 with fail
  go_cut [15] from 18 to 99 (fun s wx => ∃ x : Int, s = .int .i64 x ∧ Aside (Snake n m k (fun t u => a (A - 1 - t.toNat) = b (B - 1 - u.toNat)) c x) ∧ ∃ q, wx = w3.drewN q)
  case first =>
    by_cases hc0 : 0 ≤ c
    · have hck := hCK2.out hc0
      simp only [decide_eq_true hc0]
      go_wp2_with fail
      go_loopg [15] (n - c).toNat (fun gk s wr => ∃ x : Int, s = .int .i64 x ∧ c ≤ x ∧ (x ≤ n ∨ x = c) ∧ (n - x).toNat ≤ gk ∧ Aside (∀ t, c ≤ t → t < x → t < n ∧ t - k < m ∧ (fun t u : Int => a (A - 1 - t.toNat) = b (B - 1 - u.toNat)) t (t - k)) ∧ ∃ q, wr = w3.drewN q)
      case atStart => exact ⟨c, rfl, Int.le_refl _, .inr rfl, Nat.le_refl _, fun t h1 h2 => by omega, 0, rfl⟩
      case round =>
        obtain ⟨x, rfl, hcx, hxn, hgx, hAll, q, hw⟩ := hrel
        subst hw
        by_cases h1 : x < n
        · by_cases h2 : x - k < m
          · have hcall := bwdEqual_any p5 p6 p8 bs ba bb N M A B a b x (x - k) (w3.drewN q) hN hM (by omega) (by omega) (by omega) (by omega) hAN hBM (hQ.drewN q).c5 (hQ.drewN q).c6 (hQ.drewN q).c8 (hQ.drewN q).fa (hQ.drewN q).fb (hQ.drewN q).ra (hQ.drewN q).rb
            cases hb : (a (A - 1 - x.toNat) == b (B - 1 - (x - k).toNat))
            · rw [hb] at hcall
              have HC : Hid _ := hcall
              have HS : Aside (Snake n m k (fun t u => a (A - 1 - t.toNat) = b (B - 1 - u.toNat)) c x) := ⟨fun h => by omega, fun _ => ⟨hcx, hAll.out, fun hh => by have h5 : (a (A - 1 - x.toNat) == b (B - 1 - (x - k).toNat)) = true := beq_iff_eq.2 hh.2.2; rw [hb] at h5; cases h5⟩⟩
              clear hcall hb
              go_wp2_with (go_at_call 40; refine Calls.mono HC.out ?_; rintro e w' ⟨rfl, q2, rfl⟩)
              go_meet
              case rel => exact ⟨x, rfl, HS, q + q2, by first | rfl | rw [drewN_drewN]⟩
            · rw [hb] at hcall
              have HC : Hid _ := hcall
              have HS : Aside (∀ t, c ≤ t → t < x + 1 → t < n ∧ t - k < m ∧ (fun t u : Int => a (A - 1 - t.toNat) = b (B - 1 - u.toNat)) t (t - k)) := fun t h3 h4 => if h : t = x then by subst h; exact ⟨h1, h2, beq_iff_eq.1 hb⟩ else hAll.out t h3 (by omega)
              clear hcall hb
              go_wp2_with (go_at_call 40; refine Calls.mono HC.out ?_; rintro e w' ⟨rfl, q2, rfl⟩)
              go_roundg (gk - 1)
              case measure => omega
              case rel => exact ⟨x + 1, rfl, by omega, by omega, by omega, HS, q + q2, by first | rfl | rw [drewN_drewN]⟩
          · have HS : Aside (Snake n m k (fun t u => a (A - 1 - t.toNat) = b (B - 1 - u.toNat)) c x) := ⟨fun h => by omega, fun _ => ⟨hcx, hAll.out, fun hh => h2 hh.2.1⟩⟩
            go_wp2_with fail
            go_meet
            case rel => exact ⟨x, rfl, HS, q, rfl⟩
        · have HS : Aside (Snake n m k (fun t u => a (A - 1 - t.toNat) = b (B - 1 - u.toNat)) c x) := ⟨fun h => by omega, fun _ => ⟨hcx, hAll.out, fun hh => h1 hh.1⟩⟩
          go_wp2_with fail
          go_meet
          case rel => exact ⟨x, rfl, HS, q, rfl⟩
    · have HS : Aside (Snake n m k (fun t u => a (A - 1 - t.toNat) = b (B - 1 - u.toNat)) c c) := Snake.stay (by omega)
      go_wp2_with fail
      go_meet
      case rel => exact ⟨c, rfl, HS, 0, rfl⟩
  case rest =>
  obtain ⟨x, rfl, hS, q, hw⟩ := hcut
  subst hw
  have hfo := hQ.fo
  have hcv := hV.cell (j := (↑off + k).toNat) (by omega)
  have hfv := hV.frozen (↑off + k).toNat
  go_wp2_with fail
  go_ret
  refine ⟨x, rfl, by rw [HG.out]; exact hS.out, ?_, ?_⟩
  · exact ((hV.keep (w' := w3.drewN q) rfl).set (↑off + k).toNat (.int .i64 x)).congr (fun j _ => ints_upd V _ x j)
  · exact ((Only.refl [bv] w3).drewN q).setCell (fun _ => by simp) _

end Go.Proofs.Qxb6600671a
