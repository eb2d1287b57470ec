/-
  The contracts of spec.SameTexts (at equal lists), spec.Has and spec.Both. For every list and text of at most 2147483647 elements or bytes.
-/
import Derived.Test.YtlkfokfnffhfmaaProg
import Derived.Test.YtlkfokfnffhfmaaBytes
import Derived.Test.YtlkfokfnffhfmaaRow
import Derived.Test.YtlkfokfnffhfmaaArg
import Derived.Lib.Hide
import Derived.Handy
import Derived.Deep.QuietTactic
import Derived.BigQuiet
namespace Go.Proofs.Ytlkfokfnffhfmaa
open Go.RowKit Go.PlainAid

/-- a slice that reads as one-cell elements -/
def Rd (w : World) (a : Option Addr) (n : Nat) (xs : List Value) : Prop :=
  xs.length = n ∧ (0 < n → ∃ b o, a = some ⟨b, o, none⟩ ∧ ∀ j, j < n → w.cell? ⟨b, o + j, none⟩ = xs[j]?)
theorem Row.rd {w : World} {B : Nat} {a : Option Addr} {n c : Nat} {xs : List Value} (h : Row w B 1 (.slice a n c) n xs) : Rd w a n xs := by
  refine ⟨by simpa using h.len, fun hn => ?_⟩
  obtain ⟨g, o, cap, e, _, _, _, _, hx⟩ := h.at_ hn (by omega)
  simp only [Value.slice.injEq] at e
  exact ⟨g, o, e.1, fun j hj => hx j (by omega)⟩
theorem Arg.rd {w : World} {B : Nat} {a : Option Addr} {n : Nat} {xs : List Value} (h : Arg w B 1 a n xs) : Rd w a n xs := by
  refine ⟨by simpa using h.1, fun hn => ?_⟩
  obtain ⟨b, o, e, _, hx⟩ := h.2 hn
  exact ⟨b, o, e, fun j hj => hx j (by omega)⟩
theorem Rd.keep {w w' : World} {a : Option Addr} {n : Nat} {xs : List Value} (h : Rd w a n xs) (hk : ∀ b, a.map (·.block) = some b → w'.heap[b]? = w.heap[b]?) : Rd w' a n xs :=
  ⟨h.1, fun hn => by
    obtain ⟨b, o, e, hx⟩ := h.2 hn
    refine ⟨b, o, e, fun j hj => ?_⟩
    rw [World.cell?_of_block (w := w) (a := ⟨b, o + j, none⟩) (hk b (by rw [e]; rfl))]
    exact hx j hj⟩

theorem rd_new1 (w : World) (s : ByteArray) (e : TypeId) : Rd (w.alloc (.cells #[.string s] e)) (some ⟨w.heap.size, 0, none⟩) 1 ([L s].map S) := by
  refine ⟨rfl, fun _ => ⟨w.heap.size, 0, rfl, fun j hj => ?_⟩⟩
  obtain rfl : j = 0 := by omega
  rw [cell_of_row _ _ _ _ _ _ (heap_alloc_new w (.cells #[.string s] e)), List.map_cons, ← S_L]; rfl

theorem sameTexts_yes (w : World) (a1 a2 : Option Addr) (n c1 c2 : Nat) (ss : List (List UInt8)) (hn : n ≤ 2147483647) (h1 : Rd w a1 n (ss.map S)) (h2 : Rd w a2 n (ss.map S)) :
    Calls Try.prog 23 #[.slice a1 n c1, .slice a2 n c2] w fun e w' => e = .returned (.bool true) ∧ ∃ m, w' = w.drewN m := by
  have hl : ss.length = n := by simpa using h1.1
  have HL := Lib.hid hl
  clear hl
  have H1 := Lib.hid h1.2
  have H2 := Lib.hid h2.2
  clear h1 h2
  go_enter Try.func23, Try.ntmps23
  go_wp2
  go_loopw [13] (fun iv wr => ∃ (k m : Nat), iv = .int .i64 k ∧ k ≤ n ∧ wr = w.drewN m) (fun iv _ => n - (intOf iv).toNat)
  case atStart => exact ⟨0, 0, rfl, Nat.zero_le _, rfl⟩
  case round =>
    obtain ⟨k, m, rfl, hk, rfl⟩ := hrel
    by_cases hlt : k < n
    · obtain ⟨b1, o1, rfl, x1⟩ := H1.out (by omega)
      obtain ⟨b2, o2, rfl, x2⟩ := H2.out (by omega)
      have y1 := x1 k hlt
      have y2 := x2 k hlt
      have hk' : k < ss.length := by have := HL.out; omega
      rw [List.getElem?_map, List.getElem?_eq_getElem hk', Option.map_some] at y1 y2
      unfold S at y1 y2
      generalize mkB ss[k] = tx at y1 y2
      clear x1 x2 H1 H2
      go_wp2
      go_quiet (fail)
      go_wp2
      go_roundw
      case rel => exact ⟨k + 1, _, by go_num, by omega, rfl⟩
      case measure => simp [intOf]; omega
    · go_wp2
      go_ret
      exact ⟨rfl, m, rfl⟩

theorem has_no (s : ByteArray) (c : Int) (w : World) (hs : s.size ≤ maxLen) (h : ∀ k, k < s.size → bt s k ≠ c) :
    Calls Try.prog 11 #[.string s, .int .u8 c] w fun e w' => e = .returned (.bool false) ∧ w = w' := by
  unfold maxLen at hs
  have hb := get_bt s
  have H := Lib.hid h
  clear h
  go_enter Try.func11, Try.ntmps11
  go_wp2
  go_loop [8] (fun iv => ∃ k : Nat, iv = .int .i64 k ∧ k ≤ s.size) (fun iv => s.size - (intOf iv).toNat)
  case atStart => exact ⟨0, rfl, Nat.zero_le _⟩
  case round =>
    obtain ⟨k, rfl, hk⟩ := hrel
    by_cases hlt : k < s.size
    · have hne : (bt s k == c) = false := beq_eq_false_iff_ne.2 (H.out k hlt)
      go_wp2
      go_round
      case rel => exact ⟨k + 1, by go_num, by omega⟩
      case measure => simp [intOf]; omega
    · go_wp2
      go_ret
      exact ⟨rfl, rfl⟩
theorem has_yes (s : ByteArray) (c : Int) (w : World) (hs : s.size ≤ maxLen) (q : Nat) (hq : q < s.size) (h : bt s q = c) :
    Calls Try.prog 11 #[.string s, .int .u8 c] w fun e w' => e = .returned (.bool true) ∧ w = w' := by
  unfold maxLen at hs
  have hb := get_bt s
  have H := Lib.hid h
  clear h
  go_enter Try.func11, Try.ntmps11
  go_wp2
  go_loop [8] (fun iv => ∃ k : Nat, iv = .int .i64 k ∧ k ≤ q) (fun iv => s.size - (intOf iv).toNat)
  case atStart => exact ⟨0, rfl, Nat.zero_le _⟩
  case round =>
    obtain ⟨k, rfl, hk⟩ := hrel
    have hlt : k < s.size := by omega
    by_cases hc : (bt s k == c) = true
    · go_wp2
      go_ret
      exact ⟨rfl, rfl⟩
    · have hc' : (bt s k == c) = false := by simpa using hc
      have hkq : k < q := by
        rcases Nat.lt_or_ge k q with h | h
        · exact h
        · exfalso
          have : k = q := by omega
          subst this
          rw [H.out] at hc'
          simp at hc'
      clear hc
      go_wp2
      go_round
      case rel => exact ⟨k + 1, by go_num, by omega⟩
      case measure => simp [intOf]; omega
/-- whether a byte stands in a text -/
def hasI (s : ByteArray) (c : Int) : Bool := (List.range s.size).any fun k => bt s k == c
theorem has_any (s : ByteArray) (c : Int) (w : World) (hs : s.size ≤ maxLen) :
    Calls Try.prog 11 #[.string s, .int .u8 c] w fun e w' => e = .returned (.bool (hasI s c)) ∧ w = w' := by
  by_cases h : ∃ q, q < s.size ∧ bt s q = c
  · obtain ⟨q, hq, hc⟩ := h
    have e : hasI s c = true := by
      unfold hasI; rw [List.any_eq_true]; exact ⟨q, List.mem_range.2 hq, by simpa using hc⟩
    rw [e]; exact has_yes s c w hs q hq hc
  · have h' : ∀ k, k < s.size → bt s k ≠ c := fun k hk hc => h ⟨k, hk, hc⟩
    have e : hasI s c = false := by
      unfold hasI; rw [List.any_eq_false]; intro k hk; simpa using h' k (List.mem_range.1 hk)
    rw [e]; exact has_no s c w hs h'
theorem hasI_iff (s : ByteArray) (b : UInt8) : hasI s (b.toNat : Int) = true ↔ b ∈ L s := by
  unfold hasI
  rw [List.any_eq_true]
  constructor
  · rintro ⟨k, hk, hc⟩
    rw [List.mem_range] at hk
    rw [bt_L s k hk, beq_iff_eq, u8_eq] at hc
    rw [← hc]; exact List.getElem_mem _
  · intro h
    obtain ⟨k, hk, rfl⟩ := List.getElem_of_mem h
    have hk' : k < s.size := by rw [L_len] at hk; exact hk
    exact ⟨k, List.mem_range.2 hk', by rw [bt_L s k hk']; simp⟩
end Go.Proofs.Ytlkfokfnffhfmaa
