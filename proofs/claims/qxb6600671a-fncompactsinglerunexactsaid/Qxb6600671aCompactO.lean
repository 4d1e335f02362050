/- 'compact', walked once, whatever a proof about it owes (CVC). -/
import Derived.Test.Qxb6600671aCompactMem
import Derived.Deep.DeepCutAuto
import Derived.Deep.CutBlock
import Derived.Deep.LoopGhost
import Derived.Deep.Light
namespace Go.Proofs.Qxb6600671a
open Go.RowKit

def ints (l : List Nat) : List Value := l.map (fun (x : Nat) => Value.int .i64 x)

theorem ownsRow_slice {w : World} {base : Nat} {e : TypeId} {v : Value} {n : Nat} {xs : List Value} (h : w.ownsRow base e 1 v n xs) : ∃ a c, v = .slice a n c := by
  rcases h.2 with ⟨rfl, rfl⟩ | ⟨g, cap, cur, rfl, _⟩
  · exact ⟨none, 0, rfl⟩
  · exact ⟨_, _, rfl⟩

theorem ownsRow_ne {w : World} {base : Nat} {e : TypeId} {v : Value} {n : Nat} {xs : List Value} (h : w.ownsRow base e 1 v n xs) {k : Nat} (hk : k < base) : some k ≠ v.ownBlock := by
  intro e
  have := h.lt k e.symm
  omega

theorem addr_add (b o i : Nat) : (⟨b, o, none⟩ : Addr).add i = ⟨b, o + i, none⟩ := by unfold Addr.add; split <;> simp_all

theorem ints_get (l : List Nat) (i : Nat) (h : i < l.length) : (ints l)[i]? = some (.int .i64 ((l.getD i 0 : Nat) : Int)) := by
  simp [ints, h]

theorem cmem_start {w wc : World} {bn bc n m K : Nat} {ob : Option Addr} {num : Nat → Int} {ch oth : Nat → Bool} {au : Option Addr} {cu : Nat}
    (hN : Arr w bn n 3 (fun i => .int .i64 (num i))) (hC : Arr w bc n 4 (fun i => .bool (ch i))) (hm : m ≤ 1048576) (hne : bn ≠ bc) (hKm : cntF oth m = K)
    (h1 : wc.cell? ⟨w.heap.size, 0, none⟩ = some (.slice ob m m)) (h2 : wc.cell? ⟨w.heap.size + 1, 0, none⟩ = some (.slice au (posL oth m).length cu))
    (hown : wc.ownsRow (w.heap.size + 2) 3 1 (.slice au (posL oth m).length cu) (posL oth m).length (ints (posL oth m))) (ho : Only [] w wc) :
    ∃ g, CMem w wc bn bc n m K num ch (fun i => (posL oth m).getD i 0) g ob au m cu := by
  have hlen : (posL oth m).length = K := by rw [posL_length, hKm]
  have hKm' : K ≤ m := by rw [← hKm]; exact cntF_le _ _
  have hp : ∀ i, i < K → (posL oth m).getD i 0 < m := by
    intro i hi
    refine posL_lt oth m _ ?_
    rw [List.getD_eq_getElem?_getD, List.getElem?_eq_getElem (by omega)]
    exact List.getElem_mem _
  have hcells := fun g (hg : (Value.slice au (posL oth m).length cu).ownBlock = some g) => hown.cells hg
  rcases hown.2 with ⟨hv, hz⟩ | ⟨g, cap, cur, hv, hg, _⟩
  · refine ⟨w.heap.size, ho.arr hN (by simp), ho.arr hC (by simp), ⟨h1, by rw [← hlen]; exact h2, fun i hi => by omega, fun h => by omega, hp, hm, hKm'⟩, ho.mono (by simp), hC.lt, hne, Nat.le_refl _⟩
  · have hau : au = some ⟨g, 0, none⟩ := by simp at hv; exact hv.1
    refine ⟨g, ho.arr hN (by simp), ho.arr hC (by simp), ⟨h1, by rw [← hlen]; exact h2, fun i hi => ?_, fun _ => hau, hp, hm, hKm'⟩, ho.mono (by simp), hC.lt, hne, by omega⟩
    have := hcells g (by simp [hau, Value.ownBlock]) i _ (ints_get _ i (by omega))
    rw [addr_add] at this
    simpa using this

theorem cntF_add (f : Nat → Bool) {i j : Nat} (h : i ≤ j) : cntF f j ≤ cntF f i + (j - i) := by
  induction h with
  | refl => omega
  | @step m hm ih => have : i ≤ m := hm; simp only [cntF]; split <;> omega

/-- What is left to do: first the changed lines from k on, then the lines. -/
def cmu (n K t k : Nat) : Nat := (n - K - t) * (n + 1) + (n - k)

theorem cmu_skip (n K t : Nat) {k : Nat} (h : k < n) : cmu n K t (k + 1) < cmu n K t k := by unfold cmu; omega

theorem cmu_run {n K t t' k e : Nat} (h : t < t') (h2 : t' ≤ n - K) : cmu n K t' e < cmu n K t k := by
  unfold cmu
  have h3 : n - K - t' + 1 ≤ n - K - t := by omega
  have h4 := Nat.mul_le_mul_right (n + 1) h3
  rw [Nat.add_mul] at h4
  omega

theorem runs_enter {n K k e : Nat} {ch : Nat → Bool} (h : cntF ch n = K ∧ (k = 0 ∨ ch (k - 1) = false ∨ k = n ∨ ch k = false)) (hlt : k < n) (hc : ch k = true) (hall : ∀ j, k ≤ j → j < e → ch j = true) (hke : k ≤ e)
    (he : e = n ∨ e < n ∧ ch e = false) : Runs n K ch k e := by
  have hne : k ≠ e := by
    rintro rfl
    rcases he with he | ⟨_, he⟩
    · omega
    · rw [hc] at he; cases he
  refine ⟨by omega, by omega, hall, ?_, ?_, h.1⟩
  · rcases h.2 with h | h | h | h
    · exact .inl h
    · exact .inr h
    · omega
    · rw [hc] at h; cases h
  · rcases he with he | ⟨_, he⟩
    · exact .inl he
    · exact .inr he

/-- Behind an append to a row of the call's own, nothing below its base has turned. -/
theorem Only.grown {w wr w1 : World} {S : List Nat} {o : Obj} {row : Option Nat} (h : Only S w wr) (hg : (wr.alloc o).grownBy w1 row) (hr : ∀ k, row = some k → w.heap.size ≤ k) : Only S w w1 := by
  have ha := h.alloc o
  refine ⟨hg.os.trans ha.os, hg.tape.trans ha.tape, hg.output.trans ha.output, Nat.le_trans ha.size hg.size, fun k hk hs => ?_⟩
  rw [hg.block k (Nat.lt_of_lt_of_le hk ha.size) (fun e => by have := hr k e.symm; omega)]
  exact ha.block k hk hs

set_option maxRecDepth 100000 in
set_option maxHeartbeats 4000000 in
theorem compact_vcO (bn bc n m K : Nat) (ob : Option Addr) (num : Nat → Int) (ch0 oth : Nat → Bool) (w : World) (hn : n ≤ 1048576) (hm : m ≤ 1048576)
    (hN : Arr w bn n 3 (fun i => .int .i64 (num i))) (hC : Arr w bc n 4 (fun i => .bool (ch0 i))) (hO : 0 < m → ∃ bo, ob = some ⟨bo, 0, none⟩ ∧ Arr w bo m 4 (fun i => .bool (oth i))) (hne : bn ≠ bc)
    (hK0 : cntF ch0 n = K) (hKm : cntF oth m = K) (Out : (Nat → Bool) → Nat → Prop) (Mid : (Nat → Bool) → Nat → Nat → Prop)
    (Dn : (Nat → Bool) → Nat → Nat → Int → Prop) (Bk : (Nat → Bool) → Nat → Nat → Int → Prop) (V : CVC num n K (besideB m K (fun i => (posL oth m).getD i 0)) ch0 Out Mid Dn Bk) :
    Calls Try.prog 35 #[.slice (some ⟨bn, 0, none⟩) n n, .slice (some ⟨bc, 0, none⟩) n n, .slice ob m m] w fun e w' => e = .returned (.tuple #[]) ∧ ∃ ch, Out ch n ∧ Arr w' bc n 4 (fun i => .bool (ch i)) ∧ Only [bc] w w' := by
  obtain ⟨i0, hi, hz0, hz1, hz2⟩ := info_parts Try.info3
  go_enter Try.func35, Try.ntmps35
  go_upto_block 0 with fail
  go_cut [] (fun wc => ∃ au cu, wc.cell? ⟨w.heap.size, 0, none⟩ = some (.slice ob m m) ∧ wc.cell? ⟨w.heap.size + 1, 0, none⟩ = some (.slice au (posL oth m).length cu) ∧ wc.ownsRow (w.heap.size + 2) 3 1 (.slice au (posL oth m).length cu) (posL oth m).length (ints (posL oth m)) ∧ Only [] w wc)
  case first =>
    go_wp2_with fail
    go_loopg [19] m (fun gk i wr => ∃ k : Nat, k + gk = m ∧ i = .int .i64 k ∧ ∃ au cu, wr.cell? ⟨w.heap.size, 0, none⟩ = some (.slice ob m m) ∧ wr.cell? ⟨w.heap.size + 1, 0, none⟩ = some (.slice au (posL oth k).length cu) ∧ wr.frozen? ⟨w.heap.size + 1, 0, none⟩ = false ∧ wr.ownsRow (w.heap.size + 2) 3 1 (.slice au (posL oth k).length cu) (posL oth k).length (ints (posL oth k)) ∧ Only [] w wr)
    case atStart => exact ⟨0, by omega, rfl, none, 0, by go_simp, by go_simp; rfl, by go_simp, World.ownsRow_nil _ _ _ _, ((Only.refl _ _).alloc _).alloc _⟩
    case round =>
      obtain ⟨k, hk, rfl, au, cu, h1, h2, h3, hown, ho⟩ := hrel
      by_cases hlt : k < m
      · obtain ⟨bo, rfl, hO1⟩ := hO (by omega)
        have hbo := hO1.lt
        have hck : wr.cell? ⟨bo, k, none⟩ = some (.bool (oth k)) := (ho.arr hO1 (by simp)).cell hlt
        cases hok : oth k
        · rw [hok] at hck
          have hlen : (posL oth k).length ≤ m := by rw [posL_length]; have := cntF_le oth k; omega
          have hPL : Hid (posL oth (k + 1) = posL oth k ++ [k]) := by simp [Hid, posL, hok]
          have hsz := ho.size
          clear hok hO hO1
          go_wp2_with (at_builtin; refine wpList_append_own _ rfl _ _ 22 rfl (w.heap.size + 2) 3 i0 (.int .i64 0) 1 8 Try.underlying22 hi hz0 hz1 hz2 rfl (by decide) _ _ _ rfl (hown.alloc _) ⟨wr.heap.size, 0, none⟩ 1 1 [.int .i64 k] rfl rfl ?c1 ?c2 ?c3 ?c4 ?c5 ?_)
          case c1 =>
            intro j u hj
            match j, hj with
            | 0, hj => simp at hj; subst hj; simp [Addr.add]
          case c2 => intro u hu; simp at hu; subst hu; rfl
          case c3 => unfold maxLen; omega
          case c4 => omega
          case c5 => have := (World.block_lt_of_cell? _ _ h2); simp at this ⊢; omega
          intro v' w1 hown' hgrow _
          obtain ⟨au', cu', hv⟩ := ownsRow_slice hown'
          subst hv
          have hlt2 := World.block_lt_of_cell? _ _ h2
          simp only at hlt2
          have e1 : w1.cell? ⟨w.heap.size, 0, none⟩ = some (.slice (some ⟨bo, 0, none⟩) m m) := by
            rw [← h1]
            rw [World.cell?_of_block (hgrow.block _ (by simp; omega) (ownsRow_ne hown (by show _ < w.heap.size + 2; simp; try omega)))]
            exact World.cell?_alloc_past _ _ _ (by omega)
          have e2 : w1.cell? ⟨w.heap.size + 1, 0, none⟩ = some (.slice au (posL oth k).length cu) := by
            rw [← h2]
            rw [World.cell?_of_block (hgrow.block _ (by simp; omega) (ownsRow_ne hown (by show _ < w.heap.size + 2; simp; try omega)))]
            exact World.cell?_alloc_past _ _ _ (by omega)
          have e3 : w1.frozen? ⟨w.heap.size + 1, 0, none⟩ = false := by
            rw [← h3]
            rw [World.frozen?_of_block (hgrow.block _ (by simp; omega) (ownsRow_ne hown (by show _ < w.heap.size + 2; simp; try omega)))]
            exact World.frozen?_alloc_past _ _ _ (by omega)
          have ho1 : Only [] w w1 := ho.grown hgrow (fun k hk => by have := hown.lt k hk; omega)
          have hown2 := ownsRow_setCell_below hown' (a := ⟨w.heap.size + 1, 0, none⟩) (by show w.heap.size + 1 < _; omega) (.slice au' ((posL oth k).length + 1) cu')
          have ho2 := ho1.setCell (p := ⟨w.heap.size + 1, 0, none⟩) (fun h => by simp at h; omega) (.slice au' ((posL oth k).length + 1) cu')
          clear hgrow hown' hown h1 h2 h3 ho hck hi hz0 hz1 hz2
          have HH : Hid (posL oth (k + 1) = posL oth k ++ [k] ∧ w.heap.size + 1 < wr.heap.size) := ⟨hPL.out, hlt2⟩
          clear hPL hlt2
          go_wp2_with fail
          go_roundg (gk - 1)
          case measure => omega
          case rel =>
            obtain ⟨hP, hl⟩ := HH.out
            refine ⟨k + 1, by omega, by go_num, au', cu', ?_, ?_, ?_, ?_, ho2⟩
            · go_simp
            · rw [hP]; go_simp
            · go_simp
            · rw [hP]; simpa [ints] using hown2
        · rw [hok] at hck
          have hPL : Hid (posL oth (k + 1) = posL oth k) := by simp [Hid, posL, hok]
          clear hok hO hO1
          go_wp2_with fail
          go_roundg (gk - 1)
          case measure => omega
          case rel => exact ⟨k + 1, by omega, by go_num, au, cu, h1, by rw [hPL.out]; exact h2, h3, by rw [hPL.out]; exact hown, ho⟩
      · obtain rfl : k = m := by omega
        go_wp2_with fail
        go_meet
        case rel => exact ⟨au, cu, h1, h2, hown, ho⟩
  case rest =>
    obtain ⟨au, cu, h1, h2, hown, ho⟩ := hcut
    obtain ⟨g, hM⟩ := cmem_start hN hC hm hne hKm h1 h2 hown ho
    have hKn : K ≤ n := by rw [← hK0]; exact cntF_le _ _
    clear h1 h2 hown ho hi hz0 hz1 hz2 hO hN hC hKm
    generalize hp : (fun i => (posL oth m).getD i 0) = p at *
    clear hp
    go_wp2_with fail
    go_loopg [11, 12] (cmu n K 0 0) (fun gk u i wr => ∃ (ch : Nat → Bool) (k : Nat), cmu n K (k - cntF ch k) k ≤ gk ∧ k ≤ n ∧ u = .int .i64 (cntF ch k : Nat) ∧ i = .int .i64 k ∧ Aside (Out ch k ∧ cntF ch n = K ∧ (k = 0 ∨ ch (k - 1) = false ∨ k = n ∨ ch k = false)) ∧ CMem w wr bn bc n m K num ch p g ob au m cu)
    case atStart => exact ⟨ch0, 0, Nat.le_refl _, by omega, rfl, rfl, ⟨V.init, hK0, .inl rfl⟩, hM⟩
    case round =>
      clear hM hK0
      obtain ⟨ch, k, hk, hkn, rfl, rfl, hA, hM⟩ := hrel
      have hle := cntF_le ch k
      by_cases hlt : k < n
      · have hck := hM.hc.cell hlt
        cases hch : ch k
        · rw [hch] at hck
          have A' : Aside (Out ch (k + 1) ∧ cntF ch n = K ∧ (k + 1 = 0 ∨ ch (k + 1 - 1) = false ∨ k + 1 = n ∨ ch (k + 1) = false)) := ⟨V.skip ch k hA.out.1 hlt hch, hA.out.2.1, .inr (.inl (by simpa using hch))⟩
          have hCC : Hid (cntF ch (k + 1) = cntF ch k + 1) := by simp [Hid, cntF, hch]
          clear hA hch
          go_wp2_with fail
          go_roundg (cmu n K (k + 1 - cntF ch (k + 1)) (k + 1))
          case measure => rw [show k + 1 - cntF ch (k + 1) = k - cntF ch k by have := hCC.out; omega]; exact Nat.lt_of_lt_of_le (cmu_skip _ _ _ hlt) hk
          case rel => exact ⟨ch, k + 1, Nat.le_refl _, by omega, by rw [hCC.out]; go_num, by go_num, A', hM⟩
        · rw [hch] at hck
          have HC : Hid (ch k = true) := hch
          clear hch
          go_upto_block 4 with fail
          obtain ⟨w2, rfl⟩ : ∃ w2 : World, w2 = wr := ⟨_, rfl⟩
          go_cut [14] (fun t wc => wc = w2 ∧ ∃ e : Nat, t = .int .i64 e ∧ Aside (Runs n K ch k e))
          case first =>
            go_wp2_with fail
            go_loopg [14] (n - k) (fun gk t wr => wr = w2 ∧ ∃ e : Nat, k ≤ e ∧ e + gk = n ∧ t = .int .i64 e ∧ Aside (∀ j, k ≤ j → j < e → ch j = true))
            case atStart => exact ⟨rfl, k, Nat.le_refl _, by omega, rfl, fun j h1 h2 => by omega⟩
            case round =>
              obtain ⟨hw, e, hke, heg, rfl, hAll⟩ := hrel
              subst hw
              by_cases he : e < n
              · have hce := hM.hc.cell he
                cases hche : ch e
                · rw [hche] at hce
                  have HE : Hid (Runs n K ch k e) := runs_enter hA.out.2 hlt HC.out hAll.out hke (.inr ⟨he, hche⟩)
                  clear hche
                  go_wp2_with fail
                  go_meet
                  case rel => exact ⟨rfl, e, rfl, HE.out⟩
                · rw [hche] at hce
                  have HE : Hid (ch e = true) := hche
                  clear hche
                  go_wp2_with fail
                  go_roundg (gk - 1)
                  case measure => omega
                  case rel => exact ⟨rfl, e + 1, by omega, by omega, by go_num, fun j h1 h2 => if h : j = e then h ▸ HE.out else hAll.out j h1 (by omega)⟩
              · have HE : Hid (Runs n K ch k e) := runs_enter hA.out.2 hlt HC.out hAll.out hke (.inl (by omega))
                go_wp2_with fail
                go_meet
                case rel => exact ⟨rfl, e, rfl, HE.out⟩
          case rest =>
            obtain ⟨hw, e, rfl, hR⟩ := hcut
            subst hw
            have hRl := hR.out.lt
            have hRe := hR.out.le
            have hMid : Aside (Mid ch k e) := V.enter ch k e hA.out.1 hR.out
            have ht : (k - cntF ch k) + cntF ch k < e := by omega
            generalize k - cntF ch k = tk at *
            clear hA HC hck
            go_upto_block 6 with fail
            go_cut [11, 13, 14] (fun u st en wx => ∃ (ch : Nat → Bool) (s e : Nat), u = .int .i64 (cntF ch s : Nat) ∧ st = .int .i64 s ∧ en = .int .i64 e ∧ tk + cntF ch s < e ∧ Aside (Out ch e ∧ RunsB n K ch s e) ∧ CMem w wx bn bc n m K num ch p g ob au m cu)
            case first =>
              go_wp2_with fail
              go_loopg [11, 13, 14] n (fun gk u st en wr => ∃ (ch : Nat → Bool) (s e : Nat), n - (e - s) ≤ gk ∧ s < e ∧ e ≤ n ∧ u = .int .i64 (cntF ch s : Nat) ∧ st = .int .i64 s ∧ en = .int .i64 e ∧ tk + cntF ch s < e ∧ Aside (Mid ch s e ∧ Runs n K ch s e) ∧ CMem w wr bn bc n m K num ch p g ob au m cu)
              case atStart => exact ⟨ch, k, e, by omega, by omega, by omega, rfl, rfl, rfl, ht, ⟨hMid.out, hR.out⟩, hM⟩
              case round =>
                clear hM hMid hR ht hRl hRe hle hk hkn hlt
                obtain ⟨ch, s, e, hg1, hse, hen, rfl, rfl, rfl, ht, hA, hM⟩ := hrel
                go_upto_block 8 with fail
                obtain ⟨w3, rfl⟩ : ∃ w3 : World, w3 = wr := ⟨_, rfl⟩
                go_cut [11, 13, 14] (fun u st en wx => ∃ (ch : Nat → Bool) (s' e' : Nat), s' < e' ∧ e' ≤ n ∧ u = .int .i64 (cntF ch s' : Nat) ∧ st = .int .i64 s' ∧ en = .int .i64 e' ∧ tk + cntF ch s' < e' ∧ e - s ≤ e' - s' ∧ Aside (Mid ch s' e' ∧ Runs n K ch s' e' ∧ (s' = 0 ∨ num (s' - 1) ≠ num (e' - 1))) ∧ CMem w wx bn bc n m K num ch p g ob au m cu)
                case first =>
                  go_wp2_with fail
                  go_loopg [11, 13, 14] s (fun gk u st en wr => ∃ (ch : Nat → Bool) (s' e' : Nat), s' ≤ gk ∧ s' < e' ∧ e' ≤ n ∧ u = .int .i64 (cntF ch s' : Nat) ∧ st = .int .i64 s' ∧ en = .int .i64 e' ∧ tk + cntF ch s' < e' ∧ e - s ≤ e' - s' ∧ Aside (Mid ch s' e' ∧ Runs n K ch s' e') ∧ CMem w wr bn bc n m K num ch p g ob au m cu)
                  case atStart => exact ⟨ch, s, e, Nat.le_refl _, hse, hen, rfl, rfl, rfl, ht, Nat.le_refl _, hA.out, hM⟩
                  case round =>
                    clear hM hA ht
                    obtain ⟨ch1, s1, e1, hg2, hse1, hen1, rfl, rfl, rfl, ht1, hsz, hA1, hM1⟩ := hrel
                    have hcl := cntF_le ch1 s1
                    by_cases hs0 : 0 < s1
                    · have hcs := hM1.hn.cell (j := s1 - 1) (by omega)
                      have hce := hM1.hn.cell (j := e1 - 1) (by omega)
                      have hS0 : (0 : Int) < (s1 : Int) := by omega
                      by_cases hEq : num (s1 - 1) = num (e1 - 1)
                      · have hq : (num (s1 - 1) == num (e1 - 1)) = true := by simpa using hEq
                        have HE : Hid (num (s1 - 1) = num (e1 - 1)) := hEq
                        clear hEq
                        have hcb1 := hM1.hc.cell (j := s1 - 1) (by omega)
                        have hcb2 := hM1.hc.cell (j := e1 - 1) (by omega)
                        have hfb1 := hM1.hc.frozen (s1 - 1)
                        have hfb2 := hM1.hc.frozen (e1 - 1)
                        go_wp2_with fail
                        go_quiet (fail)
                        go_upto_block 10 with fail
                        have hM2 := ((hM1.drewN nq).set (s1 - 1) true).set (e1 - 1) false
                        have hCH : Hid (updB (updB ch1 (s1 - 1) true) (e1 - 1) false = moveUp ch1 s1 e1) := rfl
                        rw [hCH.out] at hM2
                        clear hM1 hcb1 hcb2 hfb1 hfb2 hcs hce hq hCH
                        go_wp2_with fail
                        go_loopg [13] (s1 - 1) (fun gk st wr => ∃ s2 : Nat, s2 ≤ gk ∧ s2 ≤ s1 - 1 ∧ st = .int .i64 s2 ∧ Aside (∀ j, s2 ≤ j → j < s1 - 1 → moveUp ch1 s1 e1 j = true) ∧ CMem w wr bn bc n m K num (moveUp ch1 s1 e1) p g ob au m cu)
                        case atStart => exact ⟨s1 - 1, Nat.le_refl _, Nat.le_refl _, by go_num, fun j h1 h2 => by omega, hM2⟩
                        case round =>
                          clear hM2
                          obtain ⟨s2, hg3, hs2, rfl, hAll, hM2⟩ := hrel
                          by_cases hz : 0 < s2
                          · have hcb := hM2.hc.cell (j := s2 - 1) (by omega)
                            cases hb : moveUp ch1 s1 e1 (s2 - 1)
                            · rw [hb] at hcb
                              have hR' : Hid (Runs n K (moveUp ch1 s1 e1) s2 (e1 - 1)) := hA1.out.2.up hs0 hs2 hAll.out (.inr hb)
                              have hcn : Hid (cntF (moveUp ch1 s1 e1) s2 + 1 = cntF ch1 s1) := hA1.out.2.up_cnt hs0 hs2 hAll.out
                              have A' : Aside (Mid (moveUp ch1 s1 e1) s2 (e1 - 1) ∧ Runs n K (moveUp ch1 s1 e1) s2 (e1 - 1)) := ⟨V.up ch1 s1 e1 s2 hA1.out.1 hA1.out.2 hs0 HE.out hs2 hR'.out, hR'.out⟩
                              clear hb
                              go_wp2_with fail
                              go_roundg s2
                              case measure => omega
                              case rel => exact ⟨moveUp ch1 s1 e1, s2, e1 - 1, Nat.le_refl _, by omega, by omega, by have := hcn.out; go_num, rfl, by go_num, by have := hcn.out; omega, by omega, A', hM2⟩
                            · rw [hb] at hcb
                              have A' : Aside (∀ j, s2 - 1 ≤ j → j < s1 - 1 → moveUp ch1 s1 e1 j = true) := fun j h1 h2 => if h : j = s2 - 1 then h ▸ hb else hAll.out j (by omega) h2
                              clear hb
                              go_wp2_with fail
                              go_roundg (gk - 1)
                              case measure => omega
                              case rel => exact ⟨s2 - 1, by omega, by omega, by go_num, A', hM2⟩
                          · have hR' : Hid (Runs n K (moveUp ch1 s1 e1) s2 (e1 - 1)) := hA1.out.2.up hs0 hs2 hAll.out (.inl (by omega))
                            have hcn : Hid (cntF (moveUp ch1 s1 e1) s2 + 1 = cntF ch1 s1) := hA1.out.2.up_cnt hs0 hs2 hAll.out
                            have A' : Aside (Mid (moveUp ch1 s1 e1) s2 (e1 - 1) ∧ Runs n K (moveUp ch1 s1 e1) s2 (e1 - 1)) := ⟨V.up ch1 s1 e1 s2 hA1.out.1 hA1.out.2 hs0 HE.out hs2 hR'.out, hR'.out⟩
                            go_wp2_with fail
                            go_roundg s2
                            case measure => omega
                            case rel => exact ⟨moveUp ch1 s1 e1, s2, e1 - 1, Nat.le_refl _, by omega, by omega, by have := hcn.out; go_num, rfl, by go_num, by have := hcn.out; omega, by omega, A', hM2⟩
                      · have hq : (num (s1 - 1) == num (e1 - 1)) = false := by simpa using hEq
                        have A' : Aside (Mid ch1 s1 e1 ∧ Runs n K ch1 s1 e1 ∧ (s1 = 0 ∨ num (s1 - 1) ≠ num (e1 - 1))) := ⟨hA1.out.1, hA1.out.2, .inr hEq⟩
                        clear hEq
                        go_wp2_with fail
                        go_quiet (fail)
                        go_wp2_with fail
                        go_meet
                        case rel => exact ⟨ch1, s1, e1, hse1, hen1, rfl, rfl, rfl, ht1, hsz, A', hM1.drewN _⟩
                    · have hd : decide ((0 : Int) < (s1 : Int)) = false := decide_eq_false (by omega)
                      have A' : Aside (Mid ch1 s1 e1 ∧ Runs n K ch1 s1 e1 ∧ (s1 = 0 ∨ num (s1 - 1) ≠ num (e1 - 1))) := ⟨hA1.out.1, hA1.out.2, .inl (by omega)⟩
                      go_wp2_with fail
                      go_quiet (fail)
                      go_wp2_with fail
                      go_meet
                      case rel => exact ⟨ch1, s1, e1, hse1, hen1, rfl, rfl, rfl, ht1, hsz, A', hM1.drewN _⟩
                case rest =>
                  clear hM hA ht
                  obtain ⟨ch1, s1, e1, hse1, hen1, rfl, rfl, rfl, ht1, hsz, hA1, hM1⟩ := hcut
                  have hcK := Runs.cnt_le hA1.out.2.1.toB
                  have hcl := cntF_le ch1 s1
                  go_upto_if 102 with (go_at_call 38; refine (hM1.hb.call (cntF ch1 s1) hcK).mono ?_; rintro e w' ⟨rfl, qq, rfl⟩)
                  go_cut [16] (fun b wx => b = .int .i64 (if besideB m K p (cntF ch1 s1) then (e1 : Int) else -1) ∧ CMem w wx bn bc n m K num ch1 p g ob au m cu)
                  case first =>
                    cases hb : besideB m K p (cntF ch1 s1)
                    · go_wp2_with fail
                      go_meet
                      case rel => exact ⟨by simp [hb], hM1.drewN qq⟩
                    · go_wp2_with fail
                      go_meet
                      case rel => exact ⟨by simp [hb], hM1.drewN qq⟩
                  case rest =>
                    clear hM1
                    obtain ⟨rfl, hM1⟩ := hcut
                    have hDn : Aside (Dn ch1 s1 e1 (if besideB m K p (cntF ch1 s1) then (e1 : Int) else -1) ∧ Runs n K ch1 s1 e1) := ⟨V.turn ch1 s1 e1 hA1.out.1 hA1.out.2.1 hA1.out.2.2, hA1.out.2.1⟩
                    have hbs : (if besideB m K p (cntF ch1 s1) then (e1 : Int) else -1) = -1 ∨ ((e - s : Nat) : Int) ≤ (if besideB m K p (cntF ch1 s1) then (e1 : Int) else -1) ∧ (if besideB m K p (cntF ch1 s1) then (e1 : Int) else -1) ≤ (e1 : Int) := by
                      split <;> omega
                    generalize (if besideB m K p (cntF ch1 s1) then (e1 : Int) else -1) = bs at *
                    clear hA1
                    go_upto_block 12 with fail
                    go_cut [11, 13, 14, 16] (fun u st en b wx => ∃ (ch : Nat → Bool) (s' e' : Nat) (bs : Int), s' < e' ∧ e' ≤ n ∧ u = .int .i64 (cntF ch s' : Nat) ∧ st = .int .i64 s' ∧ en = .int .i64 e' ∧ b = .int .i64 bs ∧ (bs = -1 ∨ ((e - s : Nat) : Int) ≤ bs ∧ bs ≤ e') ∧ tk + cntF ch s' < e' ∧ e - s ≤ e' - s' ∧ Aside (Dn ch s' e' bs ∧ Runs n K ch s' e' ∧ (e' = n ∨ num s' ≠ num e')) ∧ CMem w wx bn bc n m K num ch p g ob au m cu)
                    case first =>
                      go_wp2_with fail
                      go_loopg [11, 13, 14, 16] n (fun gk u st en b wr => ∃ (ch : Nat → Bool) (s' e' : Nat) (bs : Int), n - e' ≤ gk ∧ s' < e' ∧ e' ≤ n ∧ u = .int .i64 (cntF ch s' : Nat) ∧ st = .int .i64 s' ∧ en = .int .i64 e' ∧ b = .int .i64 bs ∧ Aside (bs = -1 ∨ ((e - s : Nat) : Int) ≤ bs ∧ bs ≤ e') ∧ tk + cntF ch s' < e' ∧ e - s ≤ e' - s' ∧ Aside (Dn ch s' e' bs ∧ Runs n K ch s' e') ∧ CMem w wr bn bc n m K num ch p g ob au m cu)
                      case atStart => exact ⟨ch1, s1, e1, bs, by omega, hse1, hen1, rfl, rfl, rfl, rfl, hbs, ht1, hsz, hDn, hM1⟩
                      case round =>
                        clear hM1 hDn ht1 hbs hsz hcK hcl
                        obtain ⟨ch2, s2, e2, bs2, hg2, hse2, hen2, rfl, rfl, rfl, rfl, hbs2, ht2, hsz2, hA2, hM2⟩ := hrel
                        have hcl := cntF_le ch2 s2
                        by_cases he : e2 < n
                        · have hcs := hM2.hn.cell (j := s2) (by omega)
                          have hce := hM2.hn.cell (j := e2) (by omega)
                          have heI : (e2 : Int) < (n : Int) := by omega
                          by_cases hEq : num s2 = num e2
                          · have hq : (num s2 == num e2) = true := by simpa using hEq
                            have HE : Hid (num s2 = num e2) := hEq
                            clear hEq
                            have hcb1 := hM2.hc.cell (j := s2) (by omega)
                            have hcb2 := hM2.hc.cell (j := e2) (by omega)
                            have hfb1 := hM2.hc.frozen s2
                            have hfb2 := hM2.hc.frozen e2
                            go_wp2_with fail
                            go_quiet (fail)
                            go_upto_block 14 with fail
                            have hM3 := ((hM2.drewN nq).set s2 false).set e2 true
                            have hCH : Hid (updB (updB ch2 s2 false) e2 true = moveDown ch2 s2 e2) := rfl
                            rw [hCH.out] at hM3
                            clear hM2 hcb1 hcb2 hfb1 hfb2 hcs hce hq hCH
                            go_cut [14] (fun en wx => ∃ e3 : Nat, en = .int .i64 e3 ∧ e2 + 1 ≤ e3 ∧ e3 ≤ n ∧ Aside (Runs n K (moveDown ch2 s2 e2) (s2 + 1) e3) ∧ CMem w wx bn bc n m K num (moveDown ch2 s2 e2) p g ob au m cu)
                            case first =>
                              go_wp2_with fail
                              go_loopg [14] (n - (e2 + 1)) (fun gk en wr => ∃ e3 : Nat, e3 + gk = n ∧ e2 + 1 ≤ e3 ∧ en = .int .i64 e3 ∧ Aside (∀ j, e2 + 1 ≤ j → j < e3 → moveDown ch2 s2 e2 j = true) ∧ CMem w wr bn bc n m K num (moveDown ch2 s2 e2) p g ob au m cu)
                              case atStart => exact ⟨e2 + 1, by omega, Nat.le_refl _, by go_num, fun j h1 h2 => by omega, hM3⟩
                              case round =>
                                clear hM3
                                obtain ⟨e3, hg3, he3, rfl, hAll, hM3⟩ := hrel
                                by_cases hz : e3 < n
                                · have hcb := hM3.hc.cell (j := e3) (by omega)
                                  cases hb : moveDown ch2 s2 e2 e3
                                  · rw [hb] at hcb
                                    have hR' : Aside (Runs n K (moveDown ch2 s2 e2) (s2 + 1) e3) := hA2.out.2.down he he3 (by omega) hAll.out (.inr hb)
                                    clear hb
                                    go_wp2_with fail
                                    go_meet
                                    case rel => exact ⟨e3, rfl, he3, by omega, hR', hM3⟩
                                  · rw [hb] at hcb
                                    have A' : Aside (∀ j, e2 + 1 ≤ j → j < e3 + 1 → moveDown ch2 s2 e2 j = true) := fun j h1 h2 => if h : j = e3 then h ▸ hb else hAll.out j h1 (by omega)
                                    clear hb
                                    go_wp2_with fail
                                    go_roundg (gk - 1)
                                    case measure => omega
                                    case rel => exact ⟨e3 + 1, by omega, by omega, by go_num, A', hM3⟩
                                · have hR' : Aside (Runs n K (moveDown ch2 s2 e2) (s2 + 1) e3) := hA2.out.2.down he he3 (by omega) hAll.out (.inl (by omega))
                                  go_wp2_with fail
                                  go_meet
                                  case rel => exact ⟨e3, rfl, he3, by omega, hR', hM3⟩
                            case rest =>
                              clear hM3
                              obtain ⟨e3, rfl, he3, hen3, hR', hM3⟩ := hcut
                              have hcd : Hid (cntF (moveDown ch2 s2 e2) (s2 + 1) = cntF ch2 s2 + 1) := hA2.out.2.down_cnt
                              have hcK : cntF ch2 s2 + 1 ≤ K := by have h1 := Runs.cnt_le hR'.out.toB; have h2 := hcd.out; omega
                              have hcall := hM3.hb.call (cntF ch2 s2 + 1) hcK
                              rw [show ((cntF ch2 s2 + 1 : Nat) : Int) = (cntF ch2 s2 : Int) + 1 by omega] at hcall
                              have hDn := V.down ch2 s2 e2 e3 bs2 hA2.out.1 hA2.out.2 he HE.out he3 hR'.out
                              cases hb : besideB m K p (cntF ch2 s2 + 1)
                              · rw [hb] at hcall hDn
                                have A' : Aside (Dn (moveDown ch2 s2 e2) (s2 + 1) e3 bs2 ∧ Runs n K (moveDown ch2 s2 e2) (s2 + 1) e3) := ⟨by simpa using hDn, hR'.out⟩
                                have hbs3 : Aside (bs2 = -1 ∨ ((e - s : Nat) : Int) ≤ bs2 ∧ bs2 ≤ e3) := by have := hbs2.out; show _ ∨ _; omega
                                have HC : Hid _ := hcall
                                clear hDn hb hcall hA2 hR' hbs2
                                go_wp2_with (go_at_call 38; refine Calls.mono HC.out ?_; rintro e w' ⟨rfl, qq, rfl⟩)
                                go_roundg (gk - 1)
                                case measure => omega
                                case rel => exact ⟨moveDown ch2 s2 e2, s2 + 1, e3, bs2, by omega, by omega, hen3, by have := hcd.out; go_num, by go_num, rfl, rfl, hbs3, by have := hcd.out; omega, by omega, A', hM3.drewN qq⟩
                              · rw [hb] at hcall hDn
                                have A' : Aside (Dn (moveDown ch2 s2 e2) (s2 + 1) e3 e3 ∧ Runs n K (moveDown ch2 s2 e2) (s2 + 1) e3) := ⟨by simpa using hDn, hR'.out⟩
                                have hbs3 : Aside ((e3 : Int) = -1 ∨ ((e - s : Nat) : Int) ≤ (e3 : Int) ∧ (e3 : Int) ≤ (e3 : Int)) := by show _ ∨ _; omega
                                have HC : Hid _ := hcall
                                clear hDn hb hcall hA2 hR' hbs2
                                go_wp2_with (go_at_call 38; refine Calls.mono HC.out ?_; rintro e w' ⟨rfl, qq, rfl⟩)
                                go_roundg (gk - 1)
                                case measure => omega
                                case rel => exact ⟨moveDown ch2 s2 e2, s2 + 1, e3, e3, by omega, by omega, hen3, by have := hcd.out; go_num, by go_num, rfl, rfl, hbs3, by have := hcd.out; omega, by omega, A', hM3.drewN qq⟩
                          · have hq : (num s2 == num e2) = false := by simpa using hEq
                            have A' : Aside (Dn ch2 s2 e2 bs2 ∧ Runs n K ch2 s2 e2 ∧ (e2 = n ∨ num s2 ≠ num e2)) := ⟨hA2.out.1, hA2.out.2, .inr hEq⟩
                            clear hEq
                            go_wp2_with fail
                            go_quiet (fail)
                            go_wp2_with fail
                            go_meet
                            case rel => exact ⟨ch2, s2, e2, bs2, hse2, hen2, rfl, rfl, rfl, rfl, hbs2.out, ht2, hsz2, A', hM2.drewN _⟩
                        · have hd : decide ((e2 : Int) < (n : Int)) = false := decide_eq_false (by omega)
                          have A' : Aside (Dn ch2 s2 e2 bs2 ∧ Runs n K ch2 s2 e2 ∧ (e2 = n ∨ num s2 ≠ num e2)) := ⟨hA2.out.1, hA2.out.2, .inl (by omega)⟩
                          go_wp2_with fail
                          go_quiet (fail)
                          go_wp2_with fail
                          go_meet
                          case rel => exact ⟨ch2, s2, e2, bs2, hse2, hen2, rfl, rfl, rfl, rfl, hbs2.out, ht2, hsz2, A', hM2.drewN _⟩
                    case rest =>
                      clear hM1 hDn ht1 hbs hsz hcK hcl
                      obtain ⟨ch2, s2, e2, bs2, hse2, hen2, rfl, rfl, rfl, rfl, hbs2, ht2, hsz2, hA2, hM2⟩ := hcut
                      have hB : Aside (bs2 = -1 ∨ ((e - s : Nat) : Int) ≤ bs2 ∧ bs2 ≤ e2) := hbs2
                      have hbr : -1 ≤ bs2 ∧ bs2 ≤ e2 := by omega
                      have hbr1 := hbr.1
                      have hbr2 := hbr.2
                      clear hbs2 hbr
                      by_cases hq : e2 - s2 = e - s
                      · have hqb : ((e2 : Int) - (s2 : Int) != (e : Int) - (s : Int)) = false := by
                          rw [bne_eq_false_iff_eq]; omega
                        have HQ : Hid (e2 - s2 = e - s) := hq
                        have A2 : Aside (Bk ch2 s2 e2 bs2 ∧ RunsB n K ch2 s2 e2) := ⟨V.stop ch2 s2 e2 bs2 hA2.out.1 hA2.out.2.1 hA2.out.2.2, hA2.out.2.1.toB⟩
                        clear hq hA2
                        go_wp2_with fail
                        go_loopg [11, 13, 14] e2 (fun gk u st en wr => ∃ (ch : Nat → Bool) (s3 e3 : Nat), e3 ≤ gk ∧ s3 < e3 ∧ e3 ≤ n ∧ u = .int .i64 (cntF ch s3 : Nat) ∧ st = .int .i64 s3 ∧ en = .int .i64 e3 ∧ tk + cntF ch s3 < e3 ∧ Aside (e3 - s3 = e - s ∧ Bk ch s3 e3 bs2 ∧ RunsB n K ch s3 e3) ∧ CMem w wr bn bc n m K num ch p g ob au m cu)
                        case atStart => exact ⟨ch2, s2, e2, Nat.le_refl _, hse2, hen2, rfl, rfl, rfl, ht2, ⟨HQ.out, A2.out⟩, hM2⟩
                        case round =>
                          clear hM2 A2 ht2 HQ hqb
                          obtain ⟨ch3, s3, e3, hg3, hse3, hen3, rfl, rfl, rfl, ht3, hA3, hM3⟩ := hrel
                          have hcl := cntF_le ch3 s3
                          by_cases hb0 : 0 ≤ bs2
                          · by_cases hb1 : bs2 < (e3 : Int)
                            · have hs0 : 0 < s3 := by have h1 := hB.out; have h2 := hA3.out.1; omega
                              obtain ⟨hcf, hBk⟩ := V.back ch3 s3 e3 bs2 hA3.out.2.1 hA3.out.2.2 hb0 hb1 hs0
                              have hcn : Hid (cntF (moveUp ch3 s3 e3) (s3 - 1) + 1 = cntF ch3 s3) := hA3.out.2.2.back_cnt hs0 hcf
                              have hpos : 1 ≤ cntF ch3 s3 := by have := hcn.out; omega
                              have A' : Aside (e3 - 1 - (s3 - 1) = e - s ∧ Bk (moveUp ch3 s3 e3) (s3 - 1) (e3 - 1) bs2 ∧ RunsB n K (moveUp ch3 s3 e3) (s3 - 1) (e3 - 1)) := ⟨by have := hA3.out.1; omega, hBk, hA3.out.2.2.back hs0 hcf⟩
                              have hcb1 := hM3.hc.cell (j := s3 - 1) (by omega)
                              have hcb2 := hM3.hc.cell (j := e3 - 1) (by omega)
                              have hfb1 := hM3.hc.frozen (s3 - 1)
                              have hfb2 := hM3.hc.frozen (e3 - 1)
                              clear hcf hBk
                              go_wp2_with fail
                              go_roundg (gk - 1)
                              case measure => omega
                              case rel => exact ⟨moveUp ch3 s3 e3, s3 - 1, e3 - 1, by omega, by omega, by omega, by have := hcn.out; go_num, by go_num, by go_num, by have := hcn.out; omega, A', (hM3.set (s3 - 1) true).set (e3 - 1) false⟩
                            · have A' : Aside (Out ch3 e3 ∧ RunsB n K ch3 s3 e3) := ⟨V.out ch3 s3 e3 bs2 hA3.out.2.1 hA3.out.2.2 (.inr (by omega)), hA3.out.2.2⟩
                              go_wp2_with fail
                              go_meet
                              case rel => exact ⟨ch3, s3, e3, rfl, rfl, rfl, ht3, A', hM3⟩
                          · have A' : Aside (Out ch3 e3 ∧ RunsB n K ch3 s3 e3) := ⟨V.out ch3 s3 e3 bs2 hA3.out.2.1 hA3.out.2.2 (.inl (by omega)), hA3.out.2.2⟩
                            go_wp2_with fail
                            go_meet
                            case rel => exact ⟨ch3, s3, e3, rfl, rfl, rfl, ht3, A', hM3⟩
                      · have hqb : ((e2 : Int) - (s2 : Int) != (e : Int) - (s : Int)) = true := by
                          rw [bne_iff_ne]; omega
                        have A' : Aside (Mid ch2 s2 e2 ∧ Runs n K ch2 s2 e2) := ⟨V.again ch2 s2 e2 bs2 hA2.out.1 hA2.out.2.1, hA2.out.2.1⟩
                        have hlt2 : e - s < e2 - s2 := by omega
                        clear hq hA2
                        go_wp2_with fail
                        go_roundg (gk - 1)
                        case measure => omega
                        case rel => exact ⟨ch2, s2, e2, by omega, hse2, hen2, rfl, rfl, rfl, ht2, A', hM2⟩
            case rest =>
              obtain ⟨ch2, s2, e2, rfl, rfl, rfl, ht2, hA2, hM2⟩ := hcut
              have hc2 : Hid (cntF ch2 e2 = cntF ch2 s2) := cntF_run (Nat.le_of_lt hA2.out.2.lt) (fun j h1 h2 => hA2.out.2.all j h1 h2)
              have he2 := hA2.out.2.le
              have hcle := cntF_le ch2 s2
              have hse := hA2.out.2.lt
              have hdiff := cntF_add ch2 he2
              have A' : Aside (Out ch2 e2 ∧ cntF ch2 n = K ∧ (e2 = 0 ∨ ch2 (e2 - 1) = false ∨ e2 = n ∨ ch2 e2 = false)) := ⟨hA2.out.1, hA2.out.2.cnt, .inr (.inr hA2.out.2.right)⟩
              have hcn : Hid (cntF ch2 n = K) := hA2.out.2.cnt
              go_wp2_with fail
              go_roundg (cmu n K (e2 - cntF ch2 e2) e2)
              case measure => exact Nat.lt_of_lt_of_le (cmu_run (by have h1 := hc2.out; omega) (by have h1 := hc2.out; have h2 := hcn.out; rw [h2] at hdiff; omega)) hk
              case rel => exact ⟨ch2, e2, Nat.le_refl _, he2, by rw [hc2.out], rfl, A', hM2⟩
      · obtain rfl : k = n := by omega
        have hO := hA.out.1
        have hCC := hM.hc
        have hOO := hM.ho
        clear hA hM
        go_wp2_with fail
        go_end0
        exact ⟨rfl, ch, hO, hCC, hOO⟩

set_option maxHeartbeats 400000 in
theorem zzCompact_vcO (bn bc n m K : Nat) (ob : Option Addr) (num : Nat → Int) (ch0 oth : Nat → Bool) (w : World) (hn : n ≤ 1048576) (hm : m ≤ 1048576)
    (hN : Arr w bn n 3 (fun i => .int .i64 (num i))) (hC : Arr w bc n 4 (fun i => .bool (ch0 i))) (hO : 0 < m → ∃ bo, ob = some ⟨bo, 0, none⟩ ∧ Arr w bo m 4 (fun i => .bool (oth i))) (hne : bn ≠ bc)
    (hK0 : cntF ch0 n = K) (hKm : cntF oth m = K) (Out : (Nat → Bool) → Nat → Prop) (Mid : (Nat → Bool) → Nat → Nat → Prop)
    (Dn : (Nat → Bool) → Nat → Nat → Int → Prop) (Bk : (Nat → Bool) → Nat → Nat → Int → Prop) (V : CVC num n K (besideB m K (fun i => (posL oth m).getD i 0)) ch0 Out Mid Dn Bk) :
    Calls Try.prog 27 #[.slice (some ⟨bn, 0, none⟩) n n, .slice (some ⟨bc, 0, none⟩) n n, .slice ob m m] w fun e w' => e = .returned (.tuple #[]) ∧ ∃ ch, Out ch n ∧ Arr w' bc n 4 (fun i => .bool (ch i)) ∧ Only [bc] w w' := by
  have hc := compact_vcO bn bc n m K ob num ch0 oth w hn hm hN hC hO hne hK0 hKm Out Mid Dn Bk V
  have HC : Hid _ := hc
  clear hc
  go_enter Try.func27, Try.ntmps27
  go_wp2_with (go_at_call 35; refine Calls.mono HC.out ?_; rintro e w' ⟨rfl, ch, h1, h2, h3⟩)
  go_end0
  exact ⟨rfl, ch, h1, h2, h3⟩

end Go.Proofs.Qxb6600671a
