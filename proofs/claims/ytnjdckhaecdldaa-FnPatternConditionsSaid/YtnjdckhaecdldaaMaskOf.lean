/-
  The contract of spec.MaskOf at a bit string: the mask and the bits of its condition.
-/
import Derived.Test.YtnjdckhaecdldaaTerms
import Derived.Test.YtnjdckhaecdldaaBitPlain
import Derived.Test.YtnjdckhaecdldaaNewPlain
set_option linter.unusedVariables false
namespace Go.Proofs.Ytnjdckhaecdldaa
open Go.RowKit Go.PlainAid Go.Lib

theorem condOf_bits {b : Bs} (a : Bool) (hy : b ≠ [121]) : (condOf (b, a)).mask = maskI b.length ∧ (condOf (b, a)).bits = valB b := by
  unfold condOf; rw [if_neg hy]; exact ⟨rfl, rfl⟩
theorem val_step (t : ByteArray) (k : Nat) (h : k < t.size) : valB ((L t).take (k + 1)) = bits .or .u64 (IntKind.u64.wrap (valB ((L t).take k) * 2)) (bt t k - 48) := by
  have hl : k < (L t).length := by rw [L_len]; exact h
  rw [List.take_succ_eq_append_getElem hl, valB_snoc, bt_L t k h]
  unfold pushI
  rw [Int.pow_one]
set_option maxHeartbeats 1000000 in
theorem maskOf_any (t : ByteArray) (a : Bool) (w : World) (hb : isBitsL (L t)) : Calls Try.prog 18 #[.string t] w fun e w' => e = .returned (.tuple #[.int .u64 (condOf (L t, a)).mask, .int .u64 (condOf (L t, a)).bits]) ∧ w = w' := by
  have hbt := get_bt t
  cases hy : (t.toList == (⟨#[121]⟩ : ByteArray).toList) with
  | true =>
    have HY : Hid (t = ⟨#[121]⟩) := beq_str.1 hy
    rw [show (⟨#[121]⟩ : ByteArray).toList = [121] by rw [toList_L]; rfl] at hy
    clear hb
    go_enter Try.func18, Try.ntmps18
    go_wp2
    go_ret2
    rw [HY.out]
    exact ⟨rfl, rfl⟩
  | false =>
    have hne : L t ≠ [121] := fun e => by
      have he : t = ⟨#[121]⟩ := L_inj (e.trans rfl)
      subst he; simp at hy
    rw [show (⟨#[121]⟩ : ByteArray).toList = [121] by rw [toList_L]; rfl] at hy
    rcases hb with hb | ⟨h1, h60, hc⟩
    · exact absurd hb hne
    rw [L_len] at h1 h60
    have HC : Hid (∀ k, k < t.size → bt t k = 48 ∨ bt t k = 49) := fun k hk => by
      rw [bt_L t k hk]
      rcases hc _ (List.getElem_mem (h := by rw [L_len]; exact hk)) with h | h <;> rw [h]
      · exact .inl rfl
      · exact .inr rfl
    have HE := Lib.hid (condOf_bits a hne)
    have HM : Hid ((maskI (L t).length) = IntKind.u64.wrap (IntKind.u64.wrap (2 ^ t.size) - 1)) := by
      show _ = _
      rw [L_len, mask_eq _ (by omega)]
    clear hc hne
    go_enter Try.func18, Try.ntmps18
    go_wp2
    go_loop [4, 10] (fun vv iv => ∃ k : Nat, iv = .int .i64 (k : Int) ∧ k ≤ t.size ∧ vv = .int .u64 (valB ((L t).take k))) (fun _ iv => t.size - (intOf iv).toNat)
    case atStart => exact ⟨0, rfl, Nat.zero_le _, rfl⟩
    case round =>
      obtain ⟨k, rfl, hk, rfl⟩ := hrel
      by_cases hlt : k < t.size
      · have hstep := Lib.hid (val_step t k hlt)
        have hb2 : 48 ≤ bt t k ∧ bt t k ≤ 49 := by rcases HC.out k hlt with h | h <;> omega
        obtain ⟨b0, b1⟩ := hb2
        generalize valB ((L t).take k) = V at *
        go_wp2
        go_round
        case rel => exact ⟨k + 1, by go_num, by omega, by rw [hstep.out]⟩
        case measure => simp [intOf]; omega
      · obtain rfl : k = t.size := by omega
        have HV : Hid (valB ((L t).take t.size) = valB (L t)) := by show _ = _; rw [List.take_of_length_le (by rw [L_len]; omega)]
        generalize valB ((L t).take t.size) = V at *
        go_wp2
        go_ret2
        refine ⟨?_, rfl⟩
        rw [HE.out.1, HE.out.2, HM.out, HV.out]
        rfl
end Go.Proofs.Ytnjdckhaecdldaa
