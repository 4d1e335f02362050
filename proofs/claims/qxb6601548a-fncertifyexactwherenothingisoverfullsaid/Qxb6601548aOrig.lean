/- originalShares. -/
import Derived.Test.Qxb6601548aFits
namespace Go.Proofs.Qxb6601548a
open Go.RowKit

theorem floats_upd (g : Nat → Nat) (k v i : Nat) : upd (fun i => Value.float .f64 (g i)) k (.float .f64 v) i = .float .f64 (upd g k v i) := by
  unfold upd; split <;> rfl

theorem Reads.cellO {w wr : World} {ao : Option Addr} {len : Nat} {f : Nat → Value} (h : Reads w ao len f) (ho : Only [] w wr) {i : Nat} (hi : i < len) : ∃ b off, ao = some ⟨b, off, none⟩ ∧ wr.cell? ⟨b, off + i, none⟩ = some (f i) := by
  rcases h with h | ⟨b, off, rfl, hb, hc⟩
  · omega
  · exact ⟨b, off, rfl, by rw [ho.cell hb (by simp)]; exact hc i hi⟩

set_option maxRecDepth 100000 in
set_option maxHeartbeats 4000000 in
theorem orig_any (I : Cin) (F : I.Fits) (a4 a5 : Option Addr) (c4 c5 : Nat) (w : World) (b0 : I.e ≤ 1048576) (b3 : I.n ≤ 1048576) (b4 : I.wl ≤ 1048576)
    (hr4 : Reads w a4 I.wl (fun i => .int .i32 (I.wh i))) (hr5 : Reads w a5 I.vl (fun i => .float .f64 (I.val i))) :
    Calls Try.prog 16 #[.int .i64 I.e, .slice a4 I.wl c4, .slice a5 I.vl c5, .int .i64 I.n] w fun e w' => e = .returned (.slice (some ⟨w.heap.size, 0, none⟩) I.n I.n) ∧ Arr w' w.heap.size I.n 34 (fun i => .float .f64 (I.orig i)) ∧ Only [] w w' := by
  have R4 : Hid (Reads w a4 I.wl (fun i => .int .i32 (I.wh i))) := hr4
  have R5 : Hid (Reads w a5 I.vl (fun i => .float .f64 (I.val i))) := hr5
  have HF : Hid I.Fits := F
  have hwl : I.e + I.n ≤ I.wl := F.wl
  clear hr4 hr5 F
  have hmk := run_makeF w I.n (by omega)
  go_enter Try.func16, Try.ntmps16
  go_wp2_with fail
  clear hmk
  go_loopg [10, 11] I.n (fun gk iv av wr => ∃ (k : Nat) (g : Nat → Nat), k + gk = I.n ∧ iv = .int .i64 k ∧ Arr wr w.heap.size I.n 34 (fun i => .float .f64 (g i)) ∧ Only [] w wr ∧ Aside (∀ i, g i = if i < k then I.orig i else 0))
  case atStart => exact ⟨0, fun _ => 0, by omega, rfl, Arr.made _ _ _ _ _ (size_madeCells _ _) (fun j hj => madeCells_at _ _ _ hj), (Only.refl _ _).alloc _, fun i => by simp⟩
  case round =>
    obtain ⟨k, g, hk, rfl, hA, ho, hg⟩ := hrel
    by_cases hlt : k < I.n
    · obtain ⟨x4, o4, rfl, d4⟩ := Reads.cellO R4.out ho (i := I.e + k) (by omega)
      have hI : (k : Int) < (I.n : Int) := by omega
      have hI2 : (I.e : Int) + (k : Int) < (I.wl : Int) := by omega
      have HW := Cin.Fits.wh HF.out k hlt
      have HV := Cin.Fits.val HF.out k hlt
      have hor : I.orig k = if 0 ≤ I.wh (I.e + k) then (if Ieee.double.order (I.val (I.wh (I.e + k)).toNat) 0 = some .gt then I.val (I.wh (I.e + k)).toNat else 0) else 0 := rfl
      have HK : Hid (I.orig k = 0 → ∀ i, g i = if i < k + 1 then I.orig i else 0) := fun h i => by
        rw [hg.out i]
        by_cases hi : i = k
        · subst hi; simp [h]
        · by_cases h2 : i < k
          · rw [if_pos h2, if_pos (by omega)]
          · rw [if_neg h2, if_neg (by omega)]
      have HU : Hid (∀ i, upd g k (I.orig k) i = if i < k + 1 then I.orig i else 0) := fun i => by
        by_cases hi : i = k
        · subst hi; rw [upd_same, if_pos (by omega)]
        · rw [upd_other _ _ hi, hg.out i]
          by_cases h2 : i < k
          · rw [if_pos h2, if_pos (by omega)]
          · rw [if_neg h2, if_neg (by omega)]
      clear hg
      generalize I.wh (I.e + k) = at' at *
      by_cases ha : 0 ≤ at'
      · obtain ⟨u, rfl⟩ : ∃ u : Nat, at' = (u : Int) := ⟨at'.toNat, by omega⟩
        have hu : u < I.vl := by have := HW ha; omega
        obtain ⟨x5, o5, rfl, d5⟩ := Reads.cellO R5.out ho hu
        have hI3 : (u : Int) < (I.vl : Int) := by omega
        rw [if_pos ha, show ((u : Int)).toNat = u by omega] at hor
        clear HW HV
        generalize I.val u = v at *
        by_cases hp : Ieee.double.order v 0 = some .gt
        · rw [if_pos hp] at hor
          rw [hor] at HU
          have hb : (FloatKind.f64.format.order v 0 == some .gt) = true := by
            have : FloatKind.f64.format.order v 0 = some .gt := hp
            rw [this]; rfl
          have dA := hA.cell hlt
          have dF := hA.frozen k
          have HA' : Hid (Arr (wr.setCell ⟨w.heap.size, k, none⟩ (.float .f64 v)) w.heap.size I.n 34 (fun i => .float .f64 (upd g k v i))) := (hA.set k (.float .f64 v)).congr (fun i _ => floats_upd g k v i)
          have HO' : Hid (Only [] w (wr.setCell ⟨w.heap.size, k, none⟩ (.float .f64 v))) := ho.setCell (p := ⟨w.heap.size, k, none⟩) (fun h => by simp at h) _
          clear hor hp hA ho HK
          go_wp2_with fail
          go_roundg (gk - 1)
          case measure => omega
          case rel => exact ⟨k + 1, upd g k v, by omega, by go_num, HA'.out, HO'.out, HU.out⟩
        · rw [if_neg hp] at hor
          have hb : (FloatKind.f64.format.order v 0 == some .gt) = false := by
            rw [beq_eq_false_iff_ne]; exact hp
          have HG : Hid _ := HK.out hor
          have HA : Hid _ := hA
          have HO : Hid _ := ho
          clear hor hp HK HU hA ho
          go_wp2_with fail
          go_roundg (gk - 1)
          case measure => omega
          case rel => exact ⟨k + 1, g, by omega, by go_num, HA.out, HO.out, HG.out⟩
      · rw [if_neg ha] at hor
        have HG : Hid _ := HK.out hor
        have HA : Hid _ := hA
        have HO : Hid _ := ho
        clear hor HK HU hA ho HW HV
        go_wp2_with fail
        go_roundg (gk - 1)
        case measure => omega
        case rel => exact ⟨k + 1, g, by omega, by go_num, HA.out, HO.out, HG.out⟩
    · obtain rfl : k = I.n := by omega
      go_wp2_with fail
      go_ret
      exact ⟨rfl, hA.congr (fun i hi => by rw [hg.out i, if_pos hi]), ho⟩

end Go.Proofs.Qxb6601548a
