/-
  The contracts of the hash functions: fnv, fnvString, fnvUint64, fnvUint32 of package bisect, and of the thin package's functions over them. For every hash, byte, text and number.
-/
import Derived.Test.YtnjdckhaecdldaaProg
import Derived.WalkKit
import Derived.PlainAid
import Derived.Lib.Hide
namespace Go.Proofs.Ytnjdckhaecdldaa
open Go.RowKit Go.PlainAid

def fnv1 (h x : Int) : Int := IntKind.u64.wrap (bits .xor .u64 h x * 1099511628211)
def fnvS (s : ByteArray) (h : Int) : Nat → Int
  | 0 => h
  | k + 1 => fnv1 (fnvS s h k) (bt s k)
/-- byte k of a number -/
def numB (x : Int) (k : Nat) : Int := x / 256 ^ k % 256
def fnvN (x h : Int) : Nat → Int
  | 0 => h
  | k + 1 => fnv1 (fnvN x h k) (numB x k)

theorem ret_int {k : IntKind} {a b : Int} (h : a = b) : Ending.returned (.int k a) = .returned (.int k b) := by rw [h]
theorem int_eq {k : IntKind} {a b : Int} (h : a = b) : Value.int k a = .int k b := by rw [h]

theorem fnv_any (h x : Int) (w : World) (h0 : 0 ≤ x) (h1 : x ≤ 255) :
    Calls Try.prog 35 #[.int .u64 h, .int .u8 x] w fun e w' => e = .returned (.int .u64 (fnv1 h x)) ∧ w = w' := by
  go_enter Try.func35, Try.ntmps35
  go_wp2
  go_ret
  exact ⟨rfl, rfl⟩

theorem fnvString_any (h : Int) (s : ByteArray) (w : World) (hs : s.size ≤ maxLen) :
    Calls Try.prog 34 #[.int .u64 h, .string s] w fun e w' => e = .returned (.int .u64 (fnvS s h s.size)) ∧ w = w' := by
  unfold maxLen at hs
  have hb := get_bt s
  go_enter Try.func34, Try.ntmps34
  go_wp2
  go_loop [0, 5] (fun t i => ∃ k : Nat, k ≤ s.size ∧ i = .int .i64 k ∧ t = .int .u64 (fnvS s h k)) (fun _ i => s.size - (intOf i).toNat)
  case atStart => exact ⟨0, Nat.zero_le _, rfl, rfl⟩
  case round =>
    obtain ⟨k, hk, rfl, rfl⟩ := hrel
    have b0 := bt_nonneg s k
    have b1 := bt_le s k
    by_cases hlt : k < s.size
    · go_wp2
      go_round
      case rel => exact ⟨k + 1, by omega, by go_num, rfl⟩
      case measure => simp [intOf]; omega
    · go_wp2
      go_ret
      obtain rfl : k = s.size := by omega
      exact ⟨rfl, rfl⟩

end Go.Proofs.Ytnjdckhaecdldaa
