/- zzDiffB1KeptAgree answers true where the unmarked elements agree. -/
import Derived.Test.Qxb6600671aRunCompare
import Derived.Deep.DeepCutAuto
import Derived.Deep.CutBlock
import Derived.Deep.LoopGhost
import Derived.BigQuiet
namespace Go.Proofs.Qxb6600671a
open Go.RowKit

set_option maxRecDepth 100000 in
set_option maxHeartbeats 2000000 in
theorem keptAgree_any (ao bo : Option Addr) (ba bb bd bi N M : Nat) (a b : Nat → Int) (del ins : Nat → Bool) (w : World) (hN : N ≤ 1048576) (hM_ : M ≤ 1048576)
    (ra : 0 < N → ao = some ⟨ba, 0, none⟩ ∧ Arr w ba N 3 (fun i => .int .i64 (a i))) (rb : 0 < M → bo = some ⟨bb, 0, none⟩ ∧ Arr w bb M 3 (fun i => .int .i64 (b i)))
    (rd : Arr w bd N 4 (fun i => .bool (del i))) (ri : Arr w bi M 4 (fun i => .bool (ins i))) (hEq : kept a del 0 N = kept b ins 0 M) :
    Calls Try.prog 14 #[.slice ao N N, .slice bo M M, .slice (some ⟨bd, 0, none⟩) N N, .slice (some ⟨bi, 0, none⟩) M M] w fun e w' => e = .returned (.bool true) ∧ ∃ q, w' = w.drewN q := by
  have HE : Hid _ := hEq
  have RA : Hid _ := ra
  have RB : Hid _ := rb
  have RD : Hid (Arr w bd N 4 (fun i => .bool (del i))) := rd
  have RI : Hid (Arr w bi M 4 (fun i => .bool (ins i))) := ri
  clear hEq ra rb rd ri
  go_enter Try.func14, Try.ntmps14
  go_wp2_with fail
  go_loopg [9, 10] (N + M) (fun gk iv jv wr => ∃ (i j : Nat), i ≤ N ∧ j ≤ M ∧ (N - i) + (M - j) = gk ∧ iv = .int .i64 i ∧ jv = .int .i64 j ∧ Aside (kept a del i (N - i) = kept b ins j (M - j)) ∧ ∃ q, wr = w.drewN q)
  case atStart => exact ⟨0, 0, by omega, by omega, by omega, rfl, rfl, HE.out, 0, rfl⟩
  case round =>
    clear HE
    obtain ⟨i, j, hi, hj, hg, rfl, rfl, HK, q, rfl⟩ := hrel
    go_upto_block 2 with fail
    go_cut [9] from 11 to 22 (fun iv wx => wx = w.drewN q ∧ ∃ i' : Nat, iv = .int .i64 i' ∧ i ≤ i' ∧ i' ≤ N ∧ Aside (kept a del i (N - i) = kept a del i' (N - i') ∧ (i' = N ∨ del i' = false)))
    case first =>
      go_wp2_with fail
      go_loopg [9] (N - i) (fun gk iv wr => wr = w.drewN q ∧ ∃ i' : Nat, iv = .int .i64 i' ∧ i ≤ i' ∧ i' + gk = N ∧ Aside (kept a del i (N - i) = kept a del i' (N - i')))
      case atStart => exact ⟨rfl, i, rfl, by omega, by omega, rfl⟩
      case round =>
        obtain ⟨rfl, i', rfl, hle, hk, HK2⟩ := hrel
        by_cases hlt : i' < N
        · have c1 := RD.out.cell (j := i') hlt
          by_cases hd : del i' = true
          · have HE : Aside (kept a del i (N - i) = kept a del (i' + 1) (N - (i' + 1))) := HK2.out.trans (kept_skip hlt hd)
            rw [hd] at c1
            clear hd
            go_wp2_with fail
            go_roundg (gk - 1)
            case measure => omega
            case rel => exact ⟨rfl, i' + 1, by go_num, by omega, by omega, HE⟩
          · have hd' : del i' = false := by simpa using hd
            have HE : Aside (kept a del i (N - i) = kept a del i' (N - i') ∧ (i' = N ∨ del i' = false)) := ⟨HK2.out, .inr hd'⟩
            rw [hd'] at c1
            clear hd hd'
            go_wp2_with fail
            go_meet
            case rel => exact ⟨rfl, i', rfl, by omega, by omega, HE⟩
        · have HE : Aside (kept a del i (N - i) = kept a del i' (N - i') ∧ (i' = N ∨ del i' = false)) := ⟨HK2.out, .inl (by omega)⟩
          go_wp2_with fail
          go_meet
          case rel => exact ⟨rfl, i', rfl, by omega, by omega, HE⟩
    case rest =>
      obtain ⟨rfl, i', rfl, hlei, hlei2, Hi⟩ := hcut
      go_upto_block 4 with fail
      go_cut [10] from 23 to 34 (fun iv wx => wx = w.drewN q ∧ ∃ j' : Nat, iv = .int .i64 j' ∧ j ≤ j' ∧ j' ≤ M ∧ Aside (kept b ins j (M - j) = kept b ins j' (M - j') ∧ (j' = M ∨ ins j' = false)))
      case first =>
        go_wp2_with fail
        go_loopg [10] (M - j) (fun gk iv wr => wr = w.drewN q ∧ ∃ j' : Nat, iv = .int .i64 j' ∧ j ≤ j' ∧ j' + gk = M ∧ Aside (kept b ins j (M - j) = kept b ins j' (M - j')))
        case atStart => exact ⟨rfl, j, rfl, by omega, by omega, rfl⟩
        case round =>
          obtain ⟨rfl, j', rfl, hle, hk, HK2⟩ := hrel
          by_cases hlt : j' < M
          · have c1 := RI.out.cell (j := j') hlt
            by_cases hd : ins j' = true
            · have HE : Aside (kept b ins j (M - j) = kept b ins (j' + 1) (M - (j' + 1))) := HK2.out.trans (kept_skip hlt hd)
              rw [hd] at c1
              clear hd
              go_wp2_with fail
              go_roundg (gk - 1)
              case measure => omega
              case rel => exact ⟨rfl, j' + 1, by go_num, by omega, by omega, HE⟩
            · have hd' : ins j' = false := by simpa using hd
              have HE : Aside (kept b ins j (M - j) = kept b ins j' (M - j') ∧ (j' = M ∨ ins j' = false)) := ⟨HK2.out, .inr hd'⟩
              rw [hd'] at c1
              clear hd hd'
              go_wp2_with fail
              go_meet
              case rel => exact ⟨rfl, j', rfl, by omega, by omega, HE⟩
          · have HE : Aside (kept b ins j (M - j) = kept b ins j' (M - j') ∧ (j' = M ∨ ins j' = false)) := ⟨HK2.out, .inl (by omega)⟩
            go_wp2_with fail
            go_meet
            case rel => exact ⟨rfl, j', rfl, by omega, by omega, HE⟩
      case rest =>
        obtain ⟨rfl, j', rfl, hlej, hlej2, Hj⟩ := hcut
        have HF : Aside (kept a del i' (N - i') = kept b ins j' (M - j')) := by rw [← Hi.out.1, ← Hj.out.1]; exact HK.out
        by_cases hiN : i' = N
        · have hjM : j' = M := by
            have h := HF.out
            rw [hiN, Nat.sub_self] at h
            rcases Hj.out.2 with h2 | h2
            · exact h2
            · rcases Nat.lt_or_ge j' M with h3 | h3
              · rw [kept_take h3 h2] at h; exact absurd h (by simp [kept])
              · omega
          subst hiN hjM
          clear HF Hi Hj HK
          go_wp2_with fail
          go_ret
          exact ⟨rfl, q, rfl⟩
        · have hiN' : i' < N := by omega
          have hdi : del i' = false := by rcases Hi.out.2 with h | h; exact absurd h hiN; exact h
          have hj2 : j' < M ∧ ins j' = false := by
            rcases Nat.lt_or_ge j' M with h3 | h3
            · refine ⟨h3, ?_⟩
              rcases Hj.out.2 with h | h
              · omega
              · exact h
            · have h := HF.out
              rw [kept_take hiN' hdi, show M - j' = 0 by omega] at h
              exact absurd h (by simp [kept])
          have hj3 := hj2.1
          have HG : Aside (a i' = b j' ∧ kept a del (i' + 1) (N - (i' + 1)) = kept b ins (j' + 1) (M - (j' + 1))) := by
            have h := HF.out
            rw [kept_take hiN' hdi, kept_take hj3 hj2.2] at h
            exact List.cons.inj h
          have hb : (a i' == b j') = true := by simpa using HG.out.1
          obtain ⟨eA, rA⟩ := RA.out (by omega)
          obtain ⟨eB, rB⟩ := RB.out (by omega)
          subst eA eB
          have hb1 : ((i' : Int) == (N : Int)) = false := beq_eq_false_iff_ne.mpr (by omega)
          have hb2 : ((j' : Int) == (M : Int)) = false := beq_eq_false_iff_ne.mpr (by omega)
          have c1 := rA.cell hiN'
          have c2 := rB.cell hj3
          clear hdi hj2 HF Hi Hj HK rA rB
          go_wp2_with fail
          go_quiet (fail)
          go_wp2_with fail
          go_roundg ((N - (i' + 1)) + (M - (j' + 1)))
          case measure => omega
          case rel => exact ⟨i' + 1, j' + 1, by omega, by omega, rfl, by go_num, by go_num, HG.out.2, _, rfl⟩

end Go.Proofs.Qxb6600671a
