/-
  The contracts of fnvUint64 and fnvUint32: a number is taken up byte by byte, the lowest first. For every hash and number.
-/
import Derived.Test.YtnjdckhaecdldaaFnv
import Derived.Handy
namespace Go.Proofs.Ytnjdckhaecdldaa
open Go.RowKit Go.PlainAid

theorem and255_u64 (x : Int) (h0 : 0 ≤ x) (h1 : x ≤ 18446744073709551615) : bits .and .u64 x 255 = x % 256 := by
  rw [u64_and x 255 h0 (by omega) (by omega) (by omega)]
  show ((x.toNat &&& 255 : Nat) : Int) = _
  rw [nat_mask8]; omega
theorem and255_u32 (x : Int) (h0 : 0 ≤ x) (h1 : x ≤ 4294967295) : bits .and .u32 x 255 = x % 256 := by
  rw [u32_and x 255 h0 (by omega) (by omega) (by omega)]
  show ((x.toNat &&& 255 : Nat) : Int) = _
  rw [nat_mask8]; omega
theorem div_pow_succ (x : Int) (k : Nat) : x / 256 ^ k / 256 = x / 256 ^ (k + 1) := by
  rw [Int.pow_succ, Int.ediv_ediv_of_nonneg (Int.pow_nonneg (by omega))]

theorem fnvUint64_any (h x : Int) (w : World) (h0 : 0 ≤ x) (hx : (Lit.int .u64 x).wf = true) :
    Calls Try.prog 36 #[.int .u64 h, .int .u64 x] w fun e w' => e = .returned (.int .u64 (fnvN x h 8)) ∧ w = w' := by
  have hb := (bounds_u64 hx).2
  have HB := Lib.hid hb
  clear hb hx
  go_enter Try.func36, Try.ntmps36
  go_wp2
  go_loop [0, 1, 5] (fun t y i => ∃ (k : Nat) (H Y : Int), k ≤ 8 ∧ i = .int .i64 k ∧ t = .int .u64 H ∧ y = .int .u64 Y ∧ Hid (H = fnvN x h k) ∧ Hid (Y = x / 256 ^ k)) (fun _ _ i => 8 - (intOf i).toNat)
  case atStart => exact ⟨0, h, x, by omega, rfl, rfl, rfl, rfl, by show x = x / 256 ^ 0; simp⟩
  case round =>
    obtain ⟨k, H, Y, hk, rfl, rfl, rfl, HH, HY⟩ := hrel
    by_cases hlt : k < 8
    · have y0 : 0 ≤ Y := by rw [HY.out]; exact Int.ediv_nonneg h0 (Int.pow_nonneg (by omega))
      have y1 : Y ≤ 18446744073709551615 := by
        rw [HY.out]; have := HB.out
        exact Int.le_trans (Int.ediv_le_self _ h0) this
      have ha := and255_u64 Y y0 y1
      clear y1
      go_wp2
      go_round
      case rel => exact ⟨k + 1, _, _, by omega, by go_num, rfl, rfl, by show _ = fnv1 (fnvN x h k) (numB x k); rw [← HH.out]; unfold numB; rw [← HY.out]; rfl, by show Y / 256 = _; rw [HY.out]; exact div_pow_succ x k⟩
      case measure => simp [intOf]; omega
    · obtain rfl : k = 8 := by omega
      go_wp2
      go_ret
      exact ⟨ret_int HH.out, rfl⟩

theorem fnvUint32_any (h x : Int) (w : World) (h0 : 0 ≤ x) (hb : x ≤ 4294967295) :
    Calls Try.prog 37 #[.int .u64 h, .int .u32 x] w fun e w' => e = .returned (.int .u64 (fnvN x h 4)) ∧ w = w' := by
  go_enter Try.func37, Try.ntmps37
  go_wp2
  go_loop [0, 1, 5] (fun t y i => ∃ (k : Nat) (H Y : Int), k ≤ 4 ∧ i = .int .i64 k ∧ t = .int .u64 H ∧ y = .int .u32 Y ∧ Hid (H = fnvN x h k) ∧ Hid (Y = x / 256 ^ k)) (fun _ _ i => 4 - (intOf i).toNat)
  case atStart => exact ⟨0, h, x, by omega, rfl, rfl, rfl, rfl, by show x = x / 256 ^ 0; simp⟩
  case round =>
    obtain ⟨k, H, Y, hk, rfl, rfl, rfl, HH, HY⟩ := hrel
    by_cases hlt : k < 4
    · have y0 : 0 ≤ Y := by rw [HY.out]; exact Int.ediv_nonneg h0 (Int.pow_nonneg (by omega))
      have y1 : Y ≤ 4294967295 := by
        rw [HY.out]
        exact Int.le_trans (Int.ediv_le_self _ h0) hb
      have ha := and255_u32 Y y0 y1
      have m0 : 0 ≤ Y % 256 := by omega
      have m1 : Y % 256 ≤ 255 := by omega
      go_wp2
      go_round
      case rel => exact ⟨k + 1, _, _, by omega, by go_num, rfl, rfl, by show _ = fnv1 (fnvN x h k) (numB x k); rw [← HH.out]; unfold numB; rw [← HY.out]; rfl, by show Y / 256 = _; rw [HY.out]; exact div_pow_succ x k⟩
      case measure => simp [intOf]; omega
    · obtain rfl : k = 4 := by omega
      go_wp2
      go_ret
      exact ⟨ret_int HH.out, rfl⟩

end Go.Proofs.Ytnjdckhaecdldaa
