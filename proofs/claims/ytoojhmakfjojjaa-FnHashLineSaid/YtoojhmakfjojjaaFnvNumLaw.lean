/-
  The walk of the law FnFnvNumber. For every input.
-/
import Derived.Test.YtoojhmakfjojjaaFnvNum
namespace Go.Proofs.Ytoojhmakfjojjaa
open Go.RowKit Go.PlainAid

theorem numB_low (x : Int) (k : Nat) (hk : k < 4) : numB (x % 4294967296) k = numB x k := by
  unfold numB
  match k, hk with
  | 0, _ => simp
  | 1, _ => simp; omega
  | 2, _ => simp; omega
  | 3, _ => simp; omega
theorem fnvN_low (x h : Int) : ∀ k, k ≤ 4 → fnvN (x % 4294967296) h k = fnvN x h k
  | 0, _ => rfl
  | k + 1, hk => by rw [fnvN, fnvN, fnvN_low x h k (by omega), numB_low x k (by omega)]
theorem fnvN_12 : (fnvN 2 1 8 != 0) = true := by decide +kernel

theorem walkFnFnvNumber (w : World) (h : Int) (_wh : (Lit.int .u64 h).wf = true) (x : Int) (wx : (Lit.int .u64 x).wf = true) :
    Calls Try.prog 5 #[.int .u64 h, .int .u64 x] w fun e w' => e = .returned (.bool true) ∧ Below w.heap.size w w' := by
  have h0 := (bounds_u64 wx).1
  go_enter Try.func5, Try.ntmps5
  go_wp2
  go_loop [5, 6, 10] (fun t y i => ∃ (k : Nat) (H Y : Int), k ≤ 8 ∧ i = .int .i64 k ∧ t = .int .u64 H ∧ y = .int .u64 Y ∧ Hid (H = fnvN x h k) ∧ Hid (Y = fnvN x h (min k 4))) (fun _ _ i => 8 - (intOf i).toNat)
  case atStart => exact ⟨0, h, h, by omega, rfl, rfl, rfl, rfl, rfl⟩
  case round =>
    obtain ⟨k, H, Y, hk, rfl, rfl, rfl, HH, HY⟩ := hrel
    by_cases hlt : k < 8
    · have e8 : (2 : Int) ^ (8 * k) = 256 ^ k := by rw [Int.pow_mul]; rfl
      have E8 := Lib.hid e8
      clear e8
      by_cases h4 : k < 4
      · go_wp2_with (go_at_call 9; refine (implFnv_any _ _ _ (by omega) (by omega)).mono ?_; rintro e w' ⟨rfl, rfl⟩)
        go_round
        case rel => exact ⟨k + 1, _, _, by omega, by go_num, rfl, rfl, by show _ = fnv1 (fnvN x h k) (numB x k); rw [← HH.out, E8.out]; rfl, by
          show _ = fnvN x h (min (k + 1) 4)
          rw [show min (k + 1) 4 = k + 1 by omega, fnvN, show fnvN x h k = Y by rw [HY.out, show min k 4 = k by omega], E8.out]; rfl⟩
        case measure => simp [intOf]; omega
      · go_wp2_with (go_at_call 9; refine (implFnv_any _ _ _ (by omega) (by omega)).mono ?_; rintro e w' ⟨rfl, rfl⟩)
        go_round
        case rel => exact ⟨k + 1, _, _, by omega, by go_num, rfl, rfl, by show _ = fnv1 (fnvN x h k) (numB x k); rw [← HH.out, E8.out]; rfl, by
          show Y = fnvN x h (min (k + 1) 4)
          rw [HY.out, show min (k + 1) 4 = 4 by omega, show min k 4 = 4 by omega]⟩
        case measure => simp [intOf]; omega
    · obtain rfl : k = 8 := by omega
      have eH := HH.out
      have eY := HY.out
      rw [show min 8 4 = 4 by omega, ← fnvN_low x h 4 (by omega)] at eY
      subst eH eY
      have wc : (Lit.int .u64 2).wf = true := by decide
      go_wp2_with (first | (go_at_call 13; refine (implFnvUint32_any _ _ _ (by omega) (by omega)).mono ?_; rintro e w' ⟨rfl, rfl⟩) | (go_at_call 12; refine (implFnvUint64_any _ _ _ (by omega) (by assumption)).mono ?_; rintro e w' ⟨rfl, rfl⟩))
      go_ret
      exact ⟨ret_true fnvN_12, Below.refl _ _⟩
end Go.Proofs.Ytoojhmakfjojjaa
