/-
  The contract of spec.Has. For every text and byte.
-/
import Derived.Test.YtnjdckhaecdldaaProg
import Derived.Test.YtnjdckhaecdldaaBytes
import Derived.Lib.Hide
import Derived.Handy
namespace Go.Proofs.Ytnjdckhaecdldaa
open Go.RowKit Go.PlainAid

theorem has_no (s : ByteArray) (c : Int) (w : World) (hs : s.size ≤ maxLen) (h : ∀ k, k < s.size → bt s k ≠ c) :
    Calls Try.prog 10 #[.string s, .int .u8 c] w fun e w' => e = .returned (.bool false) ∧ w = w' := by
  unfold maxLen at hs
  have hb := get_bt s
  have H := Lib.hid h
  clear h
  go_enter Try.func10, Try.ntmps10
  go_wp2
  go_loop [8] (fun iv => ∃ k : Nat, iv = .int .i64 k ∧ k ≤ s.size) (fun iv => s.size - (intOf iv).toNat)
  case atStart => exact ⟨0, rfl, Nat.zero_le _⟩
  case round =>
    obtain ⟨k, rfl, hk⟩ := hrel
    by_cases hlt : k < s.size
    · have hne : (bt s k == c) = false := beq_eq_false_iff_ne.2 (H.out k hlt)
      go_wp2
      go_round
      case rel => exact ⟨k + 1, by go_num, by omega⟩
      case measure => simp [intOf]; omega
    · go_wp2
      go_ret
      exact ⟨rfl, rfl⟩
theorem has_yes (s : ByteArray) (c : Int) (w : World) (hs : s.size ≤ maxLen) (q : Nat) (hq : q < s.size) (h : bt s q = c) :
    Calls Try.prog 10 #[.string s, .int .u8 c] w fun e w' => e = .returned (.bool true) ∧ w = w' := by
  unfold maxLen at hs
  have hb := get_bt s
  have H := Lib.hid h
  clear h
  go_enter Try.func10, Try.ntmps10
  go_wp2
  go_loop [8] (fun iv => ∃ k : Nat, iv = .int .i64 k ∧ k ≤ q) (fun iv => s.size - (intOf iv).toNat)
  case atStart => exact ⟨0, rfl, Nat.zero_le _⟩
  case round =>
    obtain ⟨k, rfl, hk⟩ := hrel
    have hlt : k < s.size := by omega
    by_cases hc : (bt s k == c) = true
    · go_wp2
      go_ret
      exact ⟨rfl, rfl⟩
    · have hc' : (bt s k == c) = false := by simpa using hc
      have hkq : k < q := by
        rcases Nat.lt_or_ge k q with h | h
        · exact h
        · exfalso
          have : k = q := by omega
          subst this
          rw [H.out] at hc'
          simp at hc'
      clear hc
      go_wp2
      go_round
      case rel => exact ⟨k + 1, by go_num, by omega⟩
      case measure => simp [intOf]; omega
/-- whether a byte stands in a text -/
def hasI (s : ByteArray) (c : Int) : Bool := (List.range s.size).any fun k => bt s k == c
theorem has_any (s : ByteArray) (c : Int) (w : World) (hs : s.size ≤ maxLen) :
    Calls Try.prog 10 #[.string s, .int .u8 c] w fun e w' => e = .returned (.bool (hasI s c)) ∧ w = w' := by
  by_cases h : ∃ q, q < s.size ∧ bt s q = c
  · obtain ⟨q, hq, hc⟩ := h
    have e : hasI s c = true := by
      unfold hasI; rw [List.any_eq_true]; exact ⟨q, List.mem_range.2 hq, by simpa using hc⟩
    rw [e]; exact has_yes s c w hs q hq hc
  · have h' : ∀ k, k < s.size → bt s k ≠ c := fun k hk hc => h ⟨k, hk, hc⟩
    have e : hasI s c = false := by
      unfold hasI; rw [List.any_eq_false]; intro k hk; simpa using h' k (List.mem_range.1 hk)
    rw [e]; exact has_no s c w hs h'
theorem hasI_iff (s : ByteArray) (b : UInt8) : hasI s (b.toNat : Int) = true ↔ b ∈ L s := by
  unfold hasI
  rw [List.any_eq_true]
  constructor
  · rintro ⟨k, hk, hc⟩
    rw [List.mem_range] at hk
    rw [bt_L s k hk, beq_iff_eq, u8_eq] at hc
    rw [← hc]; exact List.getElem_mem _
  · intro h
    obtain ⟨k, hk, rfl⟩ := List.getElem_of_mem h
    have hk' : k < s.size := by rw [L_len] at hk; exact hk
    exact ⟨k, List.mem_range.2 hk', by rw [bt_L s k hk']; simp⟩
end Go.Proofs.Ytnjdckhaecdldaa
