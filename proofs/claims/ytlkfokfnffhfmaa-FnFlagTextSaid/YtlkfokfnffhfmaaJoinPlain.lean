/-
  Plain laws for Join: what the range over a text's runes sees, and how the text grows. No program in sight.
-/
import Derived.Test.YtlkfokfnffhfmaaSplitPlain
import Derived.Laws.RangeAny
import Derived.Laws.RangeString
namespace Go.Proofs.Ytlkfokfnffhfmaa
open Go.PlainAid

/-- a rune beyond ASCII is made of bytes beyond ASCII, within the text -/
theorem decode_wide (s : ByteArray) (pos : Nat) (h : pos < s.size) (ha : 128 ≤ bt s pos) :
    pos + (Utf8.decode s pos).2 ≤ s.size ∧ ∀ j, pos ≤ j → j < pos + (Utf8.decode s pos).2 → 128 ≤ bt s j := by
  have hg : ∀ k, pos + k < s.size → ((s.get! (pos + k)).toNat : Int) = bt s (pos + k) := fun k hk => by
    rw [← get_bt s (pos + k) hk]
    simp [ByteArray.get!, ByteArray.getElem_eq_getElem_data, Array.getElem!_eq_getD, Array.getD]
    rw [dif_pos hk]
  have h0 := hg 0 (by omega)
  rw [Nat.add_zero] at h0
  have one : pos + 1 ≤ s.size ∧ ∀ j, pos ≤ j → j < pos + 1 → 128 ≤ bt s j := ⟨by omega, fun j h1 h2 => by
    have : j = pos := by omega
    rw [this]; exact ha⟩
  have two : ∀ k, pos + k < s.size → ((s.get! (pos + k)).toNat / 64 == 2) = true → 128 ≤ bt s (pos + k) := fun k hk hc => by
    have := hg k hk
    rw [beq_iff_eq] at hc
    omega
  unfold Utf8.decode
  simp only [Nat.add_zero]
  split
  · omega
  split
  · rename_i hc
    simp only [Bool.and_eq_true, decide_eq_true_eq] at hc
    split
    · refine ⟨by show pos + 2 ≤ _; omega, fun j h1 h2 => ?_⟩
      have h2 : j < pos + 2 := h2
      have hj : j = pos ∨ j = pos + 1 := by omega
      rcases hj with rfl | rfl
      · exact ha
      · exact two 1 hc.2.1 hc.2.2
    · exact one
  split
  · rename_i hc
    simp only [Bool.and_eq_true, decide_eq_true_eq] at hc
    split
    · refine ⟨by show pos + 3 ≤ _; omega, fun j h1 h2 => ?_⟩
      have h2 : j < pos + 3 := h2
      have hj : j = pos ∨ j = pos + 1 ∨ j = pos + 2 := by omega
      rcases hj with rfl | rfl | rfl
      · exact ha
      · exact two 1 hc.1.2.1 hc.1.2.2
      · exact two 2 hc.2.1 hc.2.2
    · exact one
  split
  · rename_i hc
    simp only [Bool.and_eq_true, decide_eq_true_eq] at hc
    split
    · refine ⟨by show pos + 4 ≤ _; omega, fun j h1 h2 => ?_⟩
      have h2 : j < pos + 4 := h2
      have hj : j = pos ∨ j = pos + 1 ∨ j = pos + 2 ∨ j = pos + 3 := by omega
      rcases hj with rfl | rfl | rfl | rfl
      · exact ha
      · exact two 1 hc.1.1.2.1 hc.1.1.2.2
      · exact two 2 hc.1.2.1 hc.1.2.2
      · exact two 3 hc.2.1 hc.2.2
    · exact one
  · exact one

/-- whether one of the first bytes is of a kind -/
def anyB (p : Int → Bool) (s : ByteArray) (k : Nat) : Bool := (List.range k).any fun j => p (bt s j)
theorem anyB_succ (p : Int → Bool) (s : ByteArray) (k : Nat) : anyB p s (k + 1) = (anyB p s k || p (bt s k)) := by
  unfold anyB; rw [List.range_succ, List.any_append]; simp
theorem anyB_skip (p : Int → Bool) (s : ByteArray) (k m : Nat) (h : ∀ j, k ≤ j → j < k + m → p (bt s j) = false) : anyB p s (k + m) = anyB p s k := by
  induction m with
  | zero => rfl
  | succ m ih => rw [← Nat.add_assoc, anyB_succ, ih (fun j h1 h2 => h j h1 (by omega)), h (k + m) (by omega) (by omega), Bool.or_false]
theorem anyB_L (p : Int → Bool) (q : UInt8 → Bool) (hpq : ∀ b : UInt8, p (b.toNat : Int) = q b) (s : ByteArray) : anyB p s s.size = (L s).any q := by
  unfold anyB
  rw [Bool.eq_iff_iff, List.any_eq_true, List.any_eq_true]
  constructor
  · rintro ⟨k, hk, hc⟩
    rw [List.mem_range] at hk
    exact ⟨(L s)[k]'(by rw [L_len]; exact hk), List.getElem_mem _, by rw [← hpq, ← bt_L s k hk]; exact hc⟩
  · rintro ⟨b, hb, hc⟩
    obtain ⟨k, hk, rfl⟩ := List.getElem_of_mem hb
    have hk' : k < s.size := by rw [L_len] at hk; exact hk
    exact ⟨k, List.mem_range.2 hk', by rw [bt_L s k hk', hpq]; exact hc⟩
def is39 (c : Int) : Bool := c == 39
def is34 (c : Int) : Bool := c == 34
theorem any_sp (s : ByteArray) : anyB spI s s.size = (L s).any isSp := anyB_L _ _ spI_isSp s
theorem any_39 (s : ByteArray) : anyB is39 s s.size = has 39 (L s) := by
  rw [anyB_L is39 (· == 39) (fun b => u8_beq b 39 (by omega)), has, List.contains_eq_any_beq]
  congr 1; funext b; rw [Bool.eq_iff_iff]; simp; exact ⟨fun h => h.symm, fun h => h.symm⟩
theorem any_34 (s : ByteArray) : anyB is34 s s.size = has 34 (L s) := by
  rw [anyB_L is34 (· == 34) (fun b => u8_beq b 34 (by omega)), has, List.contains_eq_any_beq]
  congr 1; funext b; rw [Bool.eq_iff_iff]; simp; exact ⟨fun h => h.symm, fun h => h.symm⟩
theorem high_not (c : Int) (h : 128 ≤ c) : spI c = false ∧ is39 c = false ∧ is34 c = false := by
  unfold spI is39 is34
  simp only [Bool.or_eq_false_iff, beq_eq_false_iff_ne]
  omega

theorem joinGo_snoc (l : List Bs) (x : Bs) (h : l ≠ []) : joinGo (l ++ [x]) = joinGo l ++ 32 :: quoteL x := by
  induction l with
  | nil => exact absurd rfl h
  | cons a l ih =>
    match l with
    | [] => rfl
    | b :: l =>
      rw [List.cons_append, List.cons_append, joinGo, joinGo, List.append_assoc, List.cons_append]
      congr 2
      have := ih (by simp)
      rwa [List.cons_append] at this
/-- how long Join's text may be -/
def tot (l : List Bs) : Nat := (l.map fun x => x.length + 3).sum
theorem quoteL_len (x : Bs) : (quoteL x).length ≤ x.length + 2 := by
  unfold quoteL; split
  · omega
  · split <;> simp
theorem joinGo_len (l : List Bs) : (joinGo l).length ≤ tot l := by
  induction l with
  | nil => simp [joinGo]
  | cons a l ih =>
    have hq := quoteL_len a
    match l, ih with
    | [], _ => simp [joinGo, tot]; omega
    | b :: l, ih =>
      rw [joinGo, List.length_append, List.length_cons]
      simp only [tot, List.map_cons, List.sum_cons] at ih ⊢
      omega
theorem tot_take (l : List Bs) (k : Nat) (h : k < l.length) : tot (l.take k) + (l[k].length + 3) ≤ tot l := by
  have e : l = l.take k ++ l[k] :: l.drop (k + 1) := by rw [← List.drop_eq_getElem_cons h, List.take_append_drop]
  conv => rhs; rw [e]
  simp only [tot, List.map_append, List.map_cons, List.sum_append, List.sum_cons]
  omega
theorem len_tot (l : List Bs) : l.length ≤ tot l := by
  induction l with
  | nil => simp
  | cons a l ih => simp only [tot, List.map_cons, List.sum_cons, List.length_cons] at ih ⊢; omega
end Go.Proofs.Ytlkfokfnffhfmaa
