/-
  The contracts of bisect.Marker, impl.Marker, spec.digit and spec.ReadMarker (at a marker), and the walk of the law FnMarkerRead. For every number.
-/
import Derived.Test.YtnjdckhaecdldaaMark
namespace Go.Proofs.Ytnjdckhaecdldaa
open Go.RowKit Go.PlainAid

theorem marker_any (n : Nat) (hn : n < 18446744073709551616) (w : World) :
    Calls Try.prog 30 #[.int .u64 (n : Int)] w fun e w' => e = .returned (.string (marker n)) ∧ Below w.heap.size w w' := by
  have HN := Lib.hid hn
  clear hn
  go_enter Try.func30, Try.ntmps30
  go_wp2_with fail
  refine (appendMarker_any n HN.out ByteArray.empty w.heap.size (.slice none 0 0) _ (Row.nil _ _ _) (Nat.le_refl _) (by decide)).mono ?_
  rintro e w1 ⟨v', rfl, hr, hg, _⟩
  have hcv := run_string_row w1 Try.underlying54 Try.underlying5 hr 9 Try.underlying9
  rw [ByteArray.empty_append] at hcv
  have HB := Lib.hid (show Below w.heap.size w w1 from (Below.refl _ _).grown hg (Nat.le_refl _) (fun k hk => by cases hk))
  clear hr hg
  go_wp2
  go_ret
  exact ⟨rfl, HB.out⟩
theorem implMarker_any (n : Nat) (hn : n < 18446744073709551616) (w : World) :
    Calls Try.prog 16 #[.int .u64 (n : Int)] w fun e w' => e = .returned (.string (marker n)) ∧ Below w.heap.size w w' := by
  have HN := Lib.hid hn
  clear hn
  go_enter Try.func16, Try.ntmps16
  go_wp2_with fail
  refine (marker_any n HN.out _).mono ?_
  rintro e w1 ⟨rfl, hb⟩
  have HB := Lib.hid hb
  clear hb
  go_wp2
  go_ret
  exact ⟨rfl, HB.out⟩

def hexI (d : Nat) : Int := if d < 10 then 48 + d else 87 + d
theorem hexI_HEX (d : Nat) (h : d < 16) : ((HEX.getD d 0).toNat : Int) = hexI d := by
  have : ∀ d : Fin 16, ((HEX.getD d.1 0).toNat : Int) = hexI d.1 := by decide
  exact this ⟨d, h⟩
def valAt (n k : Nat) : Nat := n / 16 ^ (16 - k)
theorem valAt_succ (n k : Nat) (h : k < 16) : valAt n k * 16 + dg n k = valAt n (k + 1) := by
  unfold valAt dg
  rw [show 16 - k = 15 - k + 1 by omega, Nat.pow_succ, ← Nat.div_div_eq_div_mul, show 16 - (k + 1) = 15 - k by omega]
  omega
theorem valAt_lt (n k : Nat) (h : k < 16) (hn : n < 18446744073709551616) : valAt n k * 16 < 18446744073709551616 := by
  have := valAt_succ n k h
  have h2 : valAt n (k + 1) ≤ n := Nat.div_le_self _ _
  omega
theorem or_dig (a d : Nat) (h : a * 16 < 18446744073709551616) (hd : d < 16) : bits .or .u64 (IntKind.u64.wrap ((a : Int) * 16)) (d : Int) = ((a * 16 + d : Nat) : Int) := by
  rw [show IntKind.u64.wrap ((a : Int) * 16) = ((a * 16 : Nat) : Int) by rw [IntKind.wrap_u64]; omega, u64_or_nat _ _ h (by omega), nat_join 4 (a * 16) d (by omega) (by omega)]
theorem bt_marker (n j : Nat) (h : j < 33) : bt (marker n) j = ((if j < 32 then mByte n 16 j else 93 : UInt8).toNat : Int) := by
  rw [bt_getD, marker, L_mkB]; simp [List.getD, List.getElem?_range h]
theorem bt_marker_hex (n k : Nat) (h : k < 16) : bt (marker n) (16 + k) = hexI (dg n k) := by
  rw [bt_marker n _ (by omega), if_pos (by omega)]
  unfold mByte
  rw [if_neg (by omega), if_pos (by omega), show 16 + k - 16 = k by omega]
  exact hexI_HEX _ (Nat.mod_lt _ (by omega))
theorem L_marker (n : Nat) : L (marker n) = PFX ++ ((List.range 16).map fun i => HEX.getD (dg n i) 0) ++ [93] := by
  rw [marker, L_mkB]; rfl
theorem marker_head (n : Nat) : (marker n).extract 0 16 = ⟨#[91, 98, 105, 115, 101, 99, 116, 45, 109, 97, 116, 99, 104, 32, 48, 120]⟩ := by
  apply L_inj; rw [L_take, L_marker]; rfl

end Go.Proofs.Ytnjdckhaecdldaa
