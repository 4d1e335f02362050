/- 'furthest', walked. -/
import Derived.Test.Qxb6600671aSearchMem
import Derived.Deep.DeepCutAuto
import Derived.Deep.CutBlock
import Derived.Deep.LoopGhost
namespace Go.Proofs.Qxb6600671a
open Go.RowKit

/-- The best point so far of one search: none (-1), or one that is neither its start nor its end. -/
def Best (n m p x y : Int) : Prop := -1 ≤ p ∧ p ≤ n + m ∧ 0 ≤ x ∧ x ≤ n ∧ 0 ≤ y ∧ y ≤ m ∧ (0 ≤ p → 1 ≤ x + y ∧ (x < n ∨ y < m))

/-- What a diagonal may hold. -/
def Held (n m d k v : Int) : Prop := v = -1 ∨ (0 ≤ v ∧ v ≤ n ∧ 0 ≤ v - k ∧ v - k ≤ m ∧ d ≤ 2 * v - k)

/-- What 'furthest' comes to: nothing, or a point of the part that is neither its start nor its end. -/
def FurPost (alo ahi blo bhi : Nat) (w : World) (e : Ending) (w' : World) : Prop :=
  ∃ (X Y : Int) (ok : Bool), e = .returned (.tuple #[.int .i64 X, .int .i64 Y, .bool ok]) ∧ (ok = true → (alo : Int) ≤ X ∧ X ≤ ahi ∧ (blo : Int) ≤ Y ∧ Y ≤ bhi ∧ ¬ (X = alo ∧ Y = blo) ∧ ¬ (X = ahi ∧ Y = bhi)) ∧ ∃ q, w' = w.drewN q

set_option maxRecDepth 100000 in
set_option maxHeartbeats 4000000 in
theorem furthest_any (bs bf bk off alo ahi blo bhi : Nat) (F G : Nat → Int) (d : Int) (w : World) (hoff : off ≤ 4194304) (h1 : alo ≤ ahi) (h2 : ahi ≤ 1048576) (h3 : blo ≤ bhi) (h4 : bhi ≤ 1048576) (hd : 1 ≤ d) (hdo : d + 1 ≤ off)
    (ff : w.cell? ⟨bs, 4, none⟩ = some (.slice (some ⟨bf, 0, none⟩) (2 * off + 1) (2 * off + 1))) (fk : w.cell? ⟨bs, 5, none⟩ = some (.slice (some ⟨bk, 0, none⟩) (2 * off + 1) (2 * off + 1))) (fo : w.cell? ⟨bs, 6, none⟩ = some (.int .i64 off))
    (rf : Arr w bf (2 * off + 1) 3 (fun i => .int .i64 (F i))) (rk : Arr w bk (2 * off + 1) 3 (fun i => .int .i64 (G i)))
    (hF : ∀ k, -d ≤ k → k ≤ d → (k - d) % 2 = 0 → Held ((ahi : Int) - alo) ((bhi : Int) - blo) d k (F (↑off + k).toNat)) (hG : ∀ k, -d ≤ k → k ≤ d → (k - d) % 2 = 0 → Held ((ahi : Int) - alo) ((bhi : Int) - blo) d k (G (↑off + k).toNat)) :
    Calls Try.prog 42 #[.pointer (some ⟨bs, 0, none⟩), .int .i64 alo, .int .i64 ahi, .int .i64 blo, .int .i64 bhi, .int .i64 d] w fun e w' => FurPost alo ahi blo bhi w e w' := by
  have HF : Hid _ := hF
  have HG : Hid _ := hG
  clear hF hG
  generalize hne : (ahi : Int) - alo = n at *
  generalize hme : (bhi : Int) - blo = m at *
  have hn0 : 0 ≤ n := by omega
  have hm0 : 0 ≤ m := by omega
  have hn1 : n ≤ 1048576 := by omega
  have hm1 : m ≤ 1048576 := by omega
  have HN : Hid ((ahi : Int) - alo = n) := hne
  have HM : Hid ((bhi : Int) - blo = m) := hme
  go_enter Try.func42, Try.ntmps42
  go_upto_block 0 with fail
  clear hne hme
  go_cut [17, 18, 19, 20, 21, 22] from 26 to 145 (fun p q fx fy bx by_ wx => ∃ P Q FX FY BX BY : Int, p = .int .i64 P ∧ q = .int .i64 Q ∧ fx = .int .i64 FX ∧ fy = .int .i64 FY ∧ bx = .int .i64 BX ∧ by_ = .int .i64 BY ∧ Aside (Best n m P FX FY ∧ Best n m Q BX BY) ∧ ∃ r, wx = w.drewN r)
  case first =>
    go_wp2_with fail
    go_loopg [17, 18, 19, 20, 21, 22, 23] (2 * d + 2).toNat (fun gk p q fx fy bx by_ t wr => ∃ P Q FX FY BX BY k : Int, p = .int .i64 P ∧ q = .int .i64 Q ∧ fx = .int .i64 FX ∧ fy = .int .i64 FY ∧ bx = .int .i64 BX ∧ by_ = .int .i64 BY ∧ t = .int .i64 k ∧ -d ≤ k ∧ k ≤ d + 2 ∧ Aside ((k - d) % 2 = 0 ∧ (d + 2 - k).toNat ≤ gk) ∧ Aside (Best n m P FX FY ∧ Best n m Q BX BY) ∧ ∃ r, wr = w.drewN r)
    case atStart => exact ⟨-1, -1, 0, 0, 0, 0, -d, rfl, rfl, rfl, rfl, rfl, rfl, rfl, by omega, by omega, ⟨by omega, by omega⟩, ⟨⟨by omega, by omega, by omega, by omega, by omega, by omega, by omega⟩, ⟨by omega, by omega, by omega, by omega, by omega, by omega, by omega⟩⟩, 0, rfl⟩
    case round =>
      obtain ⟨P, Q, FX, FY, BX, BY, k, rfl, rfl, rfl, rfl, rfl, rfl, rfl, hk1, hk2, hkp, hB, r, hw⟩ := hrel
      subst hw
      obtain ⟨hP, hQ⟩ := hB.out
      obtain ⟨p1, p2, p3, p4, p5, p6, p7⟩ := hP
      obtain ⟨q1, q2, q3, q4, q5, q6, q7⟩ := hQ
      have HP : Hid (0 ≤ P → 1 ≤ FX + FY ∧ (FX < n ∨ FY < m)) := p7
      have HQ : Hid (0 ≤ Q → 1 ≤ BX + BY ∧ (BX < n ∨ BY < m)) := q7
      clear p7 q7 hB
      by_cases hkd : k ≤ d
      · have cf := rf.cell (j := (↑off + k).toNat) (by omega)
        have ck := rk.cell (j := (↑off + k).toNat) (by omega)
        have H1 := HF.out k hk1 hkd hkp.out.1
        have H2 := HG.out k hk1 hkd hkp.out.1
        have HH1 : Hid _ := H1
        have HH2 : Hid _ := H2
        clear H1 H2
        generalize F (↑off + k).toNat = v at *
        generalize G (↑off + k).toNat = u at *
        have v1 : -1 ≤ v ∧ v ≤ 1048576 := by rcases HH1.out with h | h <;> omega
        have u1 : -1 ≤ u ∧ u ≤ 1048576 := by rcases HH2.out with h | h <;> omega
        obtain ⟨va, vb⟩ := v1
        obtain ⟨ua, ub⟩ := u1
        obtain ⟨w2, hw2⟩ : ∃ w2 : World, w2 = w.drewN r := ⟨_, rfl⟩
        have W2 : Hid (w2 = w.drewN r) := hw2
        have ff' : w2.cell? ⟨bs, 4, none⟩ = some (.slice (some ⟨bf, 0, none⟩) (2 * off + 1) (2 * off + 1)) := by rw [hw2]; exact ff
        have fk' : w2.cell? ⟨bs, 5, none⟩ = some (.slice (some ⟨bk, 0, none⟩) (2 * off + 1) (2 * off + 1)) := by rw [hw2]; exact fk
        have fo' : w2.cell? ⟨bs, 6, none⟩ = some (.int .i64 off) := by rw [hw2]; exact fo
        have cf' : w2.cell? ⟨bf, (↑off + k).toNat, none⟩ = some (.int .i64 v) := by rw [hw2]; exact cf
        have ck' : w2.cell? ⟨bk, (↑off + k).toNat, none⟩ = some (.int .i64 u) := by rw [hw2]; exact ck
        rw [← hw2]
        clear hw2 cf ck
        go_upto_region 7 with fail
        go_quiet (fail)
        go_upto_region 8 with fail
        go_cut [72] from 34 to 122 (fun c wx => wx = w2.drewN nq ∧ ∃ t : Bool, c = .bool t ∧ Aside (t = true → 0 ≤ v ∧ P < 2 * v - k ∧ (v < n ∨ v - k < m)))
        case first =>
          by_cases g1 : 0 ≤ v
          · by_cases g2 : P < 2 * v - k
            · by_cases g3 : v < n
              · go_wp2_with fail
                go_meet
                case rel => exact ⟨rfl, true, rfl, fun _ => ⟨g1, g2, .inl g3⟩⟩
              · by_cases g4 : v - k < m
                · go_wp2_with fail
                  go_meet
                  case rel => exact ⟨rfl, true, rfl, fun _ => ⟨g1, g2, .inr g4⟩⟩
                · go_wp2_with fail
                  go_meet
                  case rel => exact ⟨rfl, false, rfl, fun h => by cases h⟩
            · go_wp2_with fail
              go_meet
              case rel => exact ⟨rfl, false, rfl, fun h => by cases h⟩
          · go_wp2_with fail
            go_meet
            case rel => exact ⟨rfl, false, rfl, fun h => by cases h⟩
        case rest =>
        obtain ⟨hw, t, rfl, hT⟩ := hcut
        subst hw
        go_upto_if 72 with fail
        go_cut [17, 19, 20] from 34 to 122 (fun p fx fy wx => wx = w2.drewN nq ∧ ∃ P FX FY : Int, p = .int .i64 P ∧ fx = .int .i64 FX ∧ fy = .int .i64 FY ∧ Aside (Best n m P FX FY))
        case first =>
          cases t
          · go_wp2_with fail
            go_meet
            case rel => exact ⟨rfl, P, FX, FY, rfl, rfl, rfl, p1, p2, p3, p4, p5, p6, HP.out⟩
          · have hB : Aside (Best n m (2 * v - k) v (v - k)) := by
              obtain ⟨t1, t2, t3⟩ := hT.out rfl
              rcases HH1.out with h | h
              · omega
              · exact ⟨by omega, by omega, by omega, by omega, by omega, by omega, fun _ => ⟨by omega, t3⟩⟩
            go_wp2_with fail
            go_meet
            case rel => exact ⟨rfl, 2 * v - k, v, v - k, rfl, rfl, rfl, hB⟩
        case rest =>
        clear p1 p2 p3 p4 p5 p6 HP hT
        obtain ⟨hw, P2, FX2, FY2, rfl, rfl, rfl, hB2⟩ := hcut
        subst hw
        go_upto_region 10 with fail
        go_quiet (fail)
        go_upto_region 11 with fail
        go_cut [114] from 34 to 122 (fun c wx => (∃ r, wx = w2.drewN r) ∧ ∃ t : Bool, c = .bool t ∧ Aside (t = true → 0 ≤ u ∧ Q < 2 * u - k ∧ (u < n ∨ u - k < m)))
        case first =>
          by_cases g1 : 0 ≤ u
          · by_cases g2 : Q < 2 * u - k
            · by_cases g3 : u < n
              · go_wp2_with fail
                go_meet
                case rel => exact ⟨⟨_, rfl⟩, true, rfl, fun _ => ⟨g1, g2, .inl g3⟩⟩
              · by_cases g4 : u - k < m
                · go_wp2_with fail
                  go_meet
                  case rel => exact ⟨⟨_, rfl⟩, true, rfl, fun _ => ⟨g1, g2, .inr g4⟩⟩
                · go_wp2_with fail
                  go_meet
                  case rel => exact ⟨⟨_, rfl⟩, false, rfl, fun h => by cases h⟩
            · go_wp2_with fail
              go_meet
              case rel => exact ⟨⟨_, rfl⟩, false, rfl, fun h => by cases h⟩
          · go_wp2_with fail
            go_meet
            case rel => exact ⟨⟨_, rfl⟩, false, rfl, fun h => by cases h⟩
        case rest =>
        obtain ⟨⟨r2, hw⟩, t2, rfl, hT⟩ := hcut
        subst hw
        have hWW : Hid (∃ r, w2.drewN r2 = w.drewN r) := by rw [W2.out]; exact ⟨r + r2, by simp [World.drewN, Nat.add_assoc]⟩
        have HK : Hid ((k - d) % 2 = 0 ∧ (d + 2 - k).toNat ≤ gk) := hkp.out
        cases t2
        · go_wp2_with fail
          go_roundg (gk - 1)
          case measure => have := HK.out; omega
          case rel => exact ⟨P2, Q, FX2, FY2, BX, BY, k + 2, rfl, rfl, rfl, rfl, rfl, rfl, rfl, by omega, by omega, ⟨by have := HK.out; omega, by have := HK.out; omega⟩, ⟨hB2.out, q1, q2, q3, q4, q5, q6, HQ.out⟩, hWW.out⟩
        · have hB : Aside (Best n m (2 * u - k) u (u - k)) := by
            obtain ⟨t1, t2, t3⟩ := hT.out rfl
            rcases HH2.out with h | h
            · omega
            · exact ⟨by omega, by omega, by omega, by omega, by omega, by omega, fun _ => ⟨by omega, t3⟩⟩
          go_wp2_with fail
          go_roundg (gk - 1)
          case measure => have := HK.out; omega
          case rel => exact ⟨P2, 2 * u - k, FX2, FY2, u, u - k, k + 2, rfl, rfl, rfl, rfl, rfl, rfl, rfl, by omega, by omega, ⟨by have := HK.out; omega, by have := HK.out; omega⟩, ⟨hB2.out, hB.out⟩, hWW.out⟩
      · go_wp2_with fail
        go_meet
        case rel => exact ⟨P, Q, FX, FY, BX, BY, rfl, rfl, rfl, rfl, rfl, rfl, ⟨⟨p1, p2, p3, p4, p5, p6, HP.out⟩, ⟨q1, q2, q3, q4, q5, q6, HQ.out⟩⟩, r, rfl⟩
  case rest =>
  obtain ⟨P, Q, FX, FY, BX, BY, rfl, rfl, rfl, rfl, rfl, rfl, hB, r, hw⟩ := hcut
  subst hw
  obtain ⟨hP, hQ⟩ := hB.out
  obtain ⟨p1, p2, p3, p4, p5, p6, p7⟩ := hP
  obtain ⟨q1, q2, q3, q4, q5, q6, q7⟩ := hQ
  have HP : Hid (0 ≤ P → 1 ≤ FX + FY ∧ (FX < n ∨ FY < m)) := p7
  have HQ : Hid (0 ≤ Q → 1 ≤ BX + BY ∧ (BX < n ∨ BY < m)) := q7
  clear p7 q7 hB ff fk fo rf rk HF HG
  by_cases g1 : P < 0
  · by_cases g2 : Q < 0
    · go_wp2_with fail
      go_ret3
      unfold FurPost
      exact ⟨0, 0, false, rfl, (fun h => by cases h), r, rfl⟩
    · have g3 : ¬ Q ≤ P := by omega
      have hA := HQ.out (by omega)
      have HA : Hid _ := hA
      clear hA
      go_wp2_with fail
      go_ret3
      unfold FurPost
      exact ⟨(ahi : Int) - BX, (bhi : Int) - BY, true, rfl, (fun _ => by have e1 := HN.out; have e2 := HM.out; have e3 := HA.out; omega), r, rfl⟩
  · by_cases g2 : Q ≤ P
    · have hA := HP.out (by omega)
      have HA : Hid _ := hA
      clear hA
      go_wp2_with fail
      go_ret3
      unfold FurPost
      exact ⟨(alo : Int) + FX, (blo : Int) + FY, true, rfl, (fun _ => by have e1 := HN.out; have e2 := HM.out; have e3 := HA.out; omega), r, rfl⟩
    · have hA := HQ.out (by omega)
      have HA : Hid _ := hA
      clear hA
      go_wp2_with fail
      go_ret3
      unfold FurPost
      exact ⟨(ahi : Int) - BX, (bhi : Int) - BY, true, rfl, (fun _ => by have e1 := HN.out; have e2 := HM.out; have e3 := HA.out; omega), r, rfl⟩

end Go.Proofs.Qxb6600671a
