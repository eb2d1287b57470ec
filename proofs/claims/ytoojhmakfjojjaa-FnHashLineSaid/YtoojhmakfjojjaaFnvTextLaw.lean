/-
  The walk of the law FnFnvText. For every input.
-/
import Derived.Test.YtoojhmakfjojjaaFnvLaws
namespace Go.Proofs.Ytoojhmakfjojjaa
open Go.RowKit Go.PlainAid

theorem implFnv_any (h x : Int) (w : World) (h0 : 0 ≤ x) (h1 : x ≤ 255) :
    Calls Try.prog 9 #[.int .u64 h, .int .u8 x] w fun e w' => e = .returned (.int .u64 (fnv1 h x)) ∧ w = w' := by
  go_enter Try.func9, Try.ntmps9
  go_wp2
  go_ret
  exact ⟨rfl, rfl⟩
theorem implFnvString_any (h : Int) (s : ByteArray) (w : World) (hs : s.size ≤ maxLen) :
    Calls Try.prog 11 #[.int .u64 h, .string s] w fun e w' => e = .returned (.int .u64 (fnvS s h s.size)) ∧ w = w' := by
  have hs' := hs
  go_enter Try.func11, Try.ntmps11
  go_wp2_with (first | (go_at_call 26; refine (fnvString_any h s _ hs').mono ?_; rintro e w' ⟨rfl, rfl⟩) | go_in)
  go_ret
  exact ⟨rfl, rfl⟩
theorem fnvS_a : (fnvS ⟨#[97]⟩ 1 1 != 0) = true := by decide +kernel

theorem walkFnFnvText (w : World) (h : Int) (_wh : (Lit.int .u64 h).wf = true) (s : ByteArray) (ws : s.size ≤ maxLen) :
    Calls Try.prog 4 #[.int .u64 h, .string s] w fun e w' => e = .returned (.bool true) ∧ Below w.heap.size w w' := by
  have ws' := ws
  unfold maxLen at ws'
  by_cases h1 : 2147483647 < s.size
  · go_enter Try.func4, Try.ntmps4
    go_wp2
    go_ret
    exact ⟨rfl, Below.refl _ _⟩
  by_cases h2 : 1000000 < s.size
  · go_enter Try.func4, Try.ntmps4
    go_wp2_with (go_at_call 10; refine (tooLong_yes1 _ _ (by omega) (by omega) (by omega)).mono ?_; rintro e w' ⟨rfl, rfl⟩)
    go_ret
    exact ⟨rfl, (Below.refl _ _).alloc (Nat.le_refl _) _⟩
  have hb := get_bt s
  go_enter Try.func4, Try.ntmps4
  go_wp2_with (go_at_call 10; refine (tooLong_no1 _ _ (by omega) (by omega)).mono ?_; rintro e w' ⟨rfl, rfl⟩)
  go_loop [5, 17] (fun t i => ∃ k : Nat, k ≤ s.size ∧ i = .int .i64 k ∧ t = .int .u64 (fnvS s h k)) (fun _ i => s.size - (intOf i).toNat)
  case atStart => exact ⟨0, Nat.zero_le _, rfl, rfl⟩
  case round =>
    obtain ⟨k, hk, rfl, rfl⟩ := hrel
    have b0 := bt_nonneg s k
    have b1 := bt_le s k
    by_cases hlt : k < s.size
    · go_wp2_with (go_at_call 9; refine (implFnv_any _ _ _ (by assumption) (by assumption)).mono ?_; rintro e w' ⟨rfl, rfl⟩)
      go_round
      case rel => exact ⟨k + 1, by omega, by go_num, rfl⟩
      case measure => simp [intOf]; omega
    · obtain rfl : k = s.size := by omega
      go_wp2_with (go_at_call 11; refine (implFnvString_any _ _ _ (by first | assumption | decide)).mono ?_; rintro e w' ⟨rfl, rfl⟩)
      go_ret
      exact ⟨ret_true fnvS_a, (Below.refl _ _).alloc (Nat.le_refl _) _⟩
end Go.Proofs.Ytoojhmakfjojjaa
