/-
  Plain steps of spec.FieldsOf over places in a text. No program in sight.
-/
import Derived.Test.YtlmmhhbdibcijaaSplitPlain
namespace Go.Proofs.Ytlmmhhbdibcijaa
open Go.PlainAid

theorem bt_extract (s : ByteArray) (a j : Nat) : bt (s.extract a s.size) j = bt s (a + j) := by
  rw [bt_getD, bt_getD, L_drop]; simp [List.getD, List.getElem?_drop]
theorem size_to_end (s : ByteArray) (a : Nat) : (s.extract a s.size).size = s.size - a := by simp
/-- what is left from a place on -/
abbrev Dr (s : ByteArray) (a : Nat) : Bs := (L s).drop a
theorem L_mid (s : ByteArray) (a k : Nat) : L ((s.extract a s.size).extract 0 k) = L (s.extract a (a + k)) := by
  rw [L_take, L_drop, L_extract, List.drop_take]; congr 1; omega
theorem fskip (s : ByteArray) (a : Nat) (h : a < s.size) (hb : bt s a = 32) : splitL (Dr s (a + 1)) = splitL (Dr s a) := by
  have := step_skip (s.extract a s.size) (by rw [size_to_end]; omega) (by rw [bt_extract, Nat.add_zero, hb]; rfl)
  rw [L_drop, L_drop, List.drop_drop] at this
  exact this
theorem fquote (s : ByteArray) (a e : Nat) (h : a < s.size) (hq : qI (bt s a) = true) (h1 : a + 1 ≤ e) (he : e < s.size) (ha : ∀ j, a + 1 ≤ j → j < e → bt s j ≠ bt s a) (hb : bt s e = bt s a) :
    splitL (Dr s a) = (splitL (Dr s (e + 1))).map (L (s.extract (a + 1) e) :: ·) := by
  have e1 : L ((s.extract a s.size).extract 1 (s.extract a s.size).size) = L (s.extract (a + 1) s.size) := by rw [L_drop, L_drop, L_drop, List.drop_drop]
  have e2 := L_inj e1
  have := step_quote (s.extract a s.size) (by rw [size_to_end]; omega) (by rw [bt_extract, Nat.add_zero]; exact hq) (e - (a + 1)) (by rw [e2, size_to_end]; omega)
    (fun j hj => by rw [e2, bt_extract, bt_extract, Nat.add_zero]; exact ha _ (by omega) (by omega))
    (by rw [e2, bt_extract, bt_extract, Nat.add_zero, show a + 1 + (e - (a + 1)) = e by omega]; exact hb)
  rw [e2, L_mid, show a + 1 + (e - (a + 1)) = e by omega] at this
  rw [L_drop, L_drop, L_drop, List.drop_drop, show a + 1 + (e - (a + 1) + 1) = e + 1 by omega] at this
  exact this
theorem fmissing (s : ByteArray) (a : Nat) (h : a < s.size) (hq : qI (bt s a) = true) (ha : ∀ j, a + 1 ≤ j → j < s.size → bt s j ≠ bt s a) : splitL (Dr s a) = none := by
  have e1 : L ((s.extract a s.size).extract 1 (s.extract a s.size).size) = L (s.extract (a + 1) s.size) := by rw [L_drop, L_drop, L_drop, List.drop_drop]
  have e2 := L_inj e1
  have := step_missing (s.extract a s.size) (by rw [size_to_end]; omega) (by rw [bt_extract, Nat.add_zero]; exact hq)
    (fun j hj => by rw [e2, size_to_end] at hj; rw [e2, bt_extract, bt_extract, Nat.add_zero]; exact ha _ (by omega) (by omega))
  rw [L_drop] at this
  exact this
/-- neither a quote nor what may be a space -/
def plainI (c : Int) : Bool := !(qI c) && !(c == 32) && !(decide (c < 32) || decide (127 ≤ c))
theorem plain_sp {c : Int} (h : plainI c = true) : spI c = false ∧ qI c = false := by
  unfold plainI at h
  simp only [Bool.and_eq_true, Bool.not_eq_true', Bool.or_eq_false_iff, decide_eq_false_iff_not] at h
  refine ⟨?_, h.1.1⟩
  unfold spI
  simp only [Bool.or_eq_false_iff, beq_eq_false_iff_ne]
  have := h.1.2
  simp only [beq_eq_false_iff_ne] at this
  omega
theorem fbare (s : ByteArray) (a e : Nat) (h : a < e) (he : e ≤ s.size) (ha : ∀ j, a ≤ j → j < e → plainI (bt s j) = true) (hb : e = s.size ∨ bt s e = 32) :
    splitL (Dr s a) = (splitL (Dr s e)).map (L (s.extract a e) :: ·) := by
  have h0 := plain_sp (ha a (by omega) h)
  have := step_bare (s.extract a s.size) (by rw [size_to_end]; omega) (by rw [bt_extract, Nat.add_zero]; exact h0.1) (by rw [bt_extract, Nat.add_zero]; exact h0.2) (e - a) (by rw [size_to_end]; omega)
    (fun j hj => by rw [bt_extract]; exact (plain_sp (ha _ (by omega) (by omega))).1)
    (by
      rcases hb with hb | hb
      · left; rw [size_to_end]; omega
      · right; rw [bt_extract, show a + (e - a) = e by omega, hb]; rfl)
  rw [L_mid, show a + (e - a) = e by omega, L_drop, L_drop, L_drop, List.drop_drop, show a + (e - a) = e by omega] at this
  exact this
theorem Dr_end (s : ByteArray) : splitL (Dr s s.size) = some [] := by
  unfold Dr; rw [List.drop_of_length_le (by rw [L_len]; omega)]; exact splitL_nil
end Go.Proofs.Ytlmmhhbdibcijaa
