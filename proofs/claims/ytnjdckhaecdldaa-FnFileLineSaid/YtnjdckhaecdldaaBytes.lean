/-
  Plain laws on texts as lists of bytes. No program in sight.
-/
import Derived.WalkKit
import Derived.PlainAid
namespace Go.Proofs.Ytnjdckhaecdldaa
open Go.PlainAid

/-- the bytes of a text -/
def L (t : ByteArray) : List UInt8 := t.data.toList
def mkB (l : List UInt8) : ByteArray := ⟨l.toArray⟩
theorem L_mkB (l : List UInt8) : L (mkB l) = l := by simp [L, mkB]
theorem mkB_L (t : ByteArray) : mkB (L t) = t := by cases t; simp [L, mkB]
theorem L_inj {s t : ByteArray} (h : L s = L t) : s = t := by rw [← mkB_L s, h, mkB_L]
theorem L_len (t : ByteArray) : (L t).length = t.size := by unfold L; rw [Array.length_toList]; rfl
theorem size_mkB (l : List UInt8) : (mkB l).size = l.length := by rw [← L_len, L_mkB]
theorem L_append (s t : ByteArray) : L (s ++ t) = L s ++ L t := by simp [L, ByteArray.data_append]
theorem L_extract (t : ByteArray) (i j : Nat) : L (t.extract i j) = ((L t).take j).drop i := by
  simp [L, ByteArray.data_extract, Array.toList_extract, List.drop_take]
theorem L_drop (t : ByteArray) (k : Nat) : L (t.extract k t.size) = (L t).drop k := by
  rw [L_extract, List.take_of_length_le (by rw [L_len]; omega)]
theorem L_take (t : ByteArray) (k : Nat) : L (t.extract 0 k) = (L t).take k := by rw [L_extract, List.drop_zero]
theorem bt_L (t : ByteArray) (k : Nat) (h : k < t.size) : bt t k = (((L t)[k]'(by rw [L_len]; exact h)).toNat : Int) := by
  rw [← get_bt t k h]; rfl
theorem bt_getD (t : ByteArray) (k : Nat) : bt t k = (((L t).getD k 0).toNat : Int) := by
  by_cases h : k < t.size
  · rw [bt_L t k h, List.getD, List.getElem?_eq_getElem (by rw [L_len]; exact h)]; rfl
  · rw [bt_end t (by omega), List.getD, List.getElem?_eq_none (by rw [L_len]; omega)]; rfl
theorem L_cons (t : ByteArray) (h : 0 < t.size) : ∃ c, L t = c :: L (t.extract 1 t.size) ∧ bt t 0 = (c.toNat : Int) := by
  have hl : 0 < (L t).length := by rw [L_len]; exact h
  refine ⟨(L t)[0], ?_, bt_L t 0 h⟩
  rw [L_drop]
  exact (List.drop_eq_getElem_cons hl).trans rfl
theorem L_nil (t : ByteArray) (h : t.size = 0) : L t = [] := List.eq_nil_of_length_eq_zero (by rw [L_len]; exact h)
theorem u8_eq {a b : UInt8} : ((a.toNat : Int) = (b.toNat : Int)) ↔ a = b := by
  constructor
  · intro h; exact UInt8.toNat_inj.1 (by omega)
  · rintro rfl; rfl
theorem u8_is {a : UInt8} {n : Nat} (hn : n < 256) : ((a.toNat : Int) = (n : Int)) ↔ a = UInt8.ofNat n := by
  constructor
  · intro h; apply UInt8.toNat_inj.1; rw [UInt8.toNat_ofNat']; omega
  · rintro rfl; rw [UInt8.toNat_ofNat']; omega
theorem toList_L (t : ByteArray) : t.toList = L t := ByteArray.toList_eq t
theorem isEmpty_no (t : ByteArray) (h : 0 < t.size) : t.toList.isEmpty = false := by
  rw [toList_L]; have := L_len t
  cases hl : L t with
  | nil => rw [hl] at this; simp at this; omega
  | cons a l => rfl
theorem isEmpty_yes (t : ByteArray) (h : t.size = 0) : t.toList.isEmpty = true := by rw [toList_L, L_nil t h]; rfl
theorem retT {b : Bool} (h : b = true) : Ending.returned (.bool b) = .returned (.bool true) := by rw [h]
/-- the length of a text in a slot -/
def strLen : Value → Nat | .string t => t.size | _ => 0
theorem str_eq {s t : ByteArray} (h : s = t) : Value.string s = .string t := by rw [h]
/-- a field's cell -/
def S (l : List UInt8) : Value := .string (mkB l)
theorem S_L (t : ByteArray) : Value.string t = S (L t) := by rw [S, mkB_L]
end Go.Proofs.Ytnjdckhaecdldaa
