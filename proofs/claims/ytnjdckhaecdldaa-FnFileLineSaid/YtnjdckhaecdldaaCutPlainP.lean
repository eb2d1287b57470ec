/-
  Plain laws on what CutMarker tells of a line with a marker. No program in sight.
-/
import Derived.Test.YtnjdckhaecdldaaCut
import Derived.Test.YtnjdckhaecdldaaMarkReadP
namespace Go.Proofs.Ytnjdckhaecdldaa
open Go.RowKit Go.PlainAid

theorem bt_left (a b : ByteArray) (k : Nat) (h : k < a.size) : bt (a ++ b) k = bt a k := by
  rw [bt_getD, bt_getD, L_append, List.getD, List.getD, List.getElem?_append_left (by rw [L_len]; exact h)]
theorem bt_right (a b : ByteArray) (k : Nat) : bt (a ++ b) (a.size + k) = bt b k := by
  rw [bt_getD, bt_getD, L_append, List.getD, List.getD, List.getElem?_append_right (by rw [L_len]; omega), L_len, Nat.add_sub_cancel_left]
theorem mid_extract (a b c : ByteArray) : (a ++ b ++ c).extract a.size (a.size + b.size) = b := by
  apply L_inj
  rw [L_extract, L_append, L_append, List.take_append_of_le_length (by rw [List.length_append, L_len, L_len]; omega), ← L_len a, ← L_len b, ← List.length_append, List.take_length, List.drop_left]
theorem head_extract (a b : ByteArray) : (a ++ b).extract 0 a.size = a := by
  apply L_inj; rw [L_take, L_append, ← L_len a, List.take_left]
theorem tail_extract (a b : ByteArray) : (a ++ b).extract a.size (a ++ b).size = b := by
  apply L_inj; rw [L_drop, L_append, ← L_len a, List.drop_left]

/-- a line with a marker: B, the beginning, D, the bracket, E -/
def lineOf (B D E : ByteArray) : ByteArray := B ++ (P14 ++ (D ++ (⟨#[93]⟩ ++ E)))
theorem size_line (B D E : ByteArray) : (lineOf B D E).size = B.size + (14 + (D.size + (1 + E.size))) := by
  unfold lineOf; rw [ByteArray.size_append, ByteArray.size_append, ByteArray.size_append, ByteArray.size_append]; rfl
theorem line_pfx (B D E : ByteArray) : Pfx (lineOf B D E) B.size := by
  unfold Pfx lineOf
  have := mid_extract B P14 (D ++ (⟨#[93]⟩ ++ E))
  rw [ByteArray.append_assoc] at this
  exact this
theorem line_B (B D E : ByteArray) (k : Nat) (h : k < B.size) : bt (lineOf B D E) k = bt B k := bt_left _ _ _ h
theorem line_D (B D E : ByteArray) (k : Nat) (h : k < D.size) : bt (lineOf B D E) (B.size + 14 + k) = bt D k := by
  unfold lineOf
  rw [Nat.add_assoc, bt_right, show 14 + k = P14.size + k from rfl, bt_right, bt_left _ _ _ h]
theorem line_br (B D E : ByteArray) : bt (lineOf B D E) (B.size + 14 + D.size) = 93 := by
  unfold lineOf
  rw [Nat.add_assoc, bt_right, show 14 + D.size = P14.size + D.size from rfl, bt_right]
  have := bt_right D (⟨#[93]⟩ ++ E) 0
  rw [Nat.add_zero] at this
  rw [this]
  exact bt_left ⟨#[93]⟩ E 0 (by decide)
theorem line_E (B D E : ByteArray) (k : Nat) : bt (lineOf B D E) (B.size + 14 + D.size + 1 + k) = bt E k := by
  unfold lineOf
  rw [show B.size + 14 + D.size + 1 + k = B.size + (P14.size + (D.size + ((⟨#[93]⟩ : ByteArray).size + k))) by show _ = B.size + (14 + (D.size + (1 + k))); omega, bt_right, bt_right, bt_right, bt_right]
theorem line_first (B D E : ByteArray) (hB : ∀ k, k < B.size → bt B k ≠ 91) (p : Nat) (h : FirstPfx (lineOf B D E) p) : p = B.size := by
  obtain ⟨h1, h2, h3⟩ := h
  rcases Nat.lt_trichotomy p B.size with h | h | h
  · have := pfx_byte h2 (by omega)
    rw [line_B B D E p h] at this
    exact absurd this (hB p h)
  · exact h
  · exact absurd (line_pfx B D E) (h3 _ h)
theorem line_firstBr (B D E : ByteArray) (hD : ∀ k, k < D.size → bt D k ≠ 93) (j : Nat) (h : FirstBr (lineOf B D E) B.size j) : j = B.size + 14 + D.size := by
  obtain ⟨h1, h2, h3, h4⟩ := h
  rcases Nat.lt_trichotomy j (B.size + 14 + D.size) with h | h | h
  · obtain ⟨k, rfl⟩ : ∃ k, j = B.size + 14 + k := ⟨j - (B.size + 14), by omega⟩
    rw [line_D B D E k (by omega)] at h3
    exact absurd h3 (hD k (by omega))
  · exact h
  · exact absurd (line_br B D E) (h4 _ (by omega) h)
theorem line_ext (B D E : ByteArray) : (lineOf B D E).extract (B.size + 14) (B.size + 14 + D.size) = D := by
  have := mid_extract (B ++ P14) D (⟨#[93]⟩ ++ E)
  rw [ByteArray.append_assoc, ByteArray.append_assoc, show (B ++ P14).size = B.size + 14 by rw [ByteArray.size_append]; rfl] at this
  exact this
theorem cut_hex (B D E : ByteArray) (hB : ∀ k, k < B.size → bt B k ≠ 91) (hD : ∀ k, k < D.size → bt D k ≠ 93) (hx : HexForm D) (hl : D.size ≤ 18) {e : Ending} (h : Cut (lineOf B D E) e) :
    e = cutYes (cutS (lineOf B D E) B.size (B.size + 14 + D.size + 1)) (hexFold D (D.size - 2)) := by
  have hs := size_line B D E
  cases h with
  | none h => exact absurd (line_pfx B D E) (h _ (by omega))
  | open_ p h hj =>
    have := line_first B D E hB p h; subst this
    exact absurd (line_br B D E) (hj _ (by omega) (by omega))
  | long p j h hj hx' hl' =>
    have := line_first B D E hB p h; subst this
    have := line_firstBr B D E hD j hj; subst this
    rw [line_ext] at hl'; omega
  | hex p j h hj hx' hl' =>
    have := line_first B D E hB p h; subst this
    have := line_firstBr B D E hD j hj; subst this
    rw [line_ext]
  | size p j h hj hx' hl' =>
    have := line_first B D E hB p h; subst this
    have := line_firstBr B D E hD j hj; subst this
    rw [line_ext] at hx'; exact absurd hx hx'
  | bad p j k h hj hx' hk hb =>
    have := line_first B D E hB p h; subst this
    have := line_firstBr B D E hD j hj; subst this
    rw [line_ext] at hx'; exact absurd hx hx'
  | bin p j h hj hx' hl' hb =>
    have := line_first B D E hB p h; subst this
    have := line_firstBr B D E hD j hj; subst this
    rw [line_ext] at hx'; exact absurd hx hx'
theorem cut_bin (B D E : ByteArray) (hB : ∀ k, k < B.size → bt B k ≠ 91) (hD : ∀ k, k < D.size → bt D k = 48 ∨ bt D k = 49) (hl : 1 ≤ D.size ∧ D.size ≤ 64) {e : Ending} (h : Cut (lineOf B D E) e) :
    e = cutYes (cutS (lineOf B D E) B.size (B.size + 14 + D.size + 1)) (binFold D D.size) := by
  have hs := size_line B D E
  have hD' : ∀ k, k < D.size → bt D k ≠ 93 := fun k hk => by have := hD k hk; omega
  have hx : ¬ HexForm D := fun h => by
    have h2 := hD 1 (by have := h.1; omega)
    have e1 : bt (D.extract 0 2) 1 = bt D 1 := by
      rw [bt_getD, bt_getD, L_take]; simp only [List.getD, List.getElem?_take]; rw [if_pos (by omega)]
    rw [← e1, h.2] at h2
    have : bt (⟨#[48, 120]⟩ : ByteArray) 1 = 120 := rfl
    omega
  cases h with
  | none h => exact absurd (line_pfx B D E) (h _ (by omega))
  | open_ p h hj =>
    have := line_first B D E hB p h; subst this
    exact absurd (line_br B D E) (hj _ (by omega) (by omega))
  | long p j h hj hx' hl' =>
    have := line_first B D E hB p h; subst this
    have := line_firstBr B D E hD' j hj; subst this
    rw [line_ext] at hx'; exact absurd hx' hx
  | hex p j h hj hx' hl' =>
    have := line_first B D E hB p h; subst this
    have := line_firstBr B D E hD' j hj; subst this
    rw [line_ext] at hx'; exact absurd hx' hx
  | size p j h hj hx' hl' =>
    have := line_first B D E hB p h; subst this
    have := line_firstBr B D E hD' j hj; subst this
    rw [line_ext] at hl'; omega
  | bad p j k h hj hx' hk hb =>
    have := line_first B D E hB p h; subst this
    have := line_firstBr B D E hD' j hj; subst this
    rw [line_ext] at hk hb
    have := hD k hk; omega
  | bin p j h hj hx' hl' hb =>
    have := line_first B D E hB p h; subst this
    have := line_firstBr B D E hD' j hj; subst this
    rw [line_ext]

/-- what stands between the beginning and the bracket of the marker of n -/
def dOf (n : Nat) : ByteArray := mkB (48 :: 120 :: (List.range 16).map fun i => HEX.getD (dg n i) 0)
theorem size_dOf (n : Nat) : (dOf n).size = 18 := by rw [dOf, size_mkB]; simp
theorem marker_parts (n : Nat) : marker n = P14 ++ (dOf n ++ ⟨#[93]⟩) := by
  apply L_inj; rw [L_marker, L_append, L_append, dOf, L_mkB]; rfl
theorem line_marker (B E : ByteArray) (n : Nat) : B ++ marker n ++ E = lineOf B (dOf n) E := by
  unfold lineOf; rw [marker_parts, ByteArray.append_assoc, ByteArray.append_assoc, ByteArray.append_assoc]
theorem dg_lt (n k : Nat) : dg n k < 16 := Nat.mod_lt _ (by omega)
theorem bt_dOf (n k : Nat) (h : k < 16) : bt (dOf n) (2 + k) = hexI (dg n k) := by
  rw [bt_getD, dOf, L_mkB, ← hexI_HEX _ (dg_lt n k)]
  rw [show 2 + k = k + 1 + 1 by omega, List.getD_cons_succ, List.getD_cons_succ]
  simp [List.getD, List.getElem?_range h]
theorem hexI_range (d : Nat) (h : d < 16) : (48 ≤ hexI d ∧ hexI d ≤ 57) ∨ (97 ≤ hexI d ∧ hexI d ≤ 102) := by unfold hexI; split <;> omega
theorem dOf_no93 (n k : Nat) (h : k < (dOf n).size) : bt (dOf n) k ≠ 93 := by
  rw [size_dOf] at h
  by_cases hk : k < 2
  · have : k = 0 ∨ k = 1 := by omega
    rcases this with rfl | rfl
    · show ((48 : Nat) : Int) ≠ 93; omega
    · show ((120 : Nat) : Int) ≠ 93; omega
  · obtain ⟨j, rfl⟩ : ∃ j, k = 2 + j := ⟨k - 2, by omega⟩
    rw [bt_dOf n j (by omega)]
    have := hexI_range (dg n j) (Nat.mod_lt _ (by omega))
    omega
theorem dOf_hex (n : Nat) : HexForm (dOf n) := by
  refine ⟨by rw [size_dOf]; omega, ?_⟩
  apply L_inj; rw [L_take, dOf, L_mkB]; rfl
theorem hexStep_dig (a d : Nat) (h : a * 16 < 18446744073709551616) (hd : d < 16) : hexStep (a : Int) (hexI d) = ((a * 16 + d : Nat) : Int) := by
  rw [← or_dig a d h hd]
  unfold hexStep hexI
  by_cases h10 : d < 10
  · rw [if_pos h10, if_pos (by omega)]; congr 1; omega
  · rw [if_neg h10, if_neg (by omega), if_pos (by omega)]; congr 1; omega
theorem hexFold_dOf (n : Nat) (hn : n < 18446744073709551616) : ∀ k, k ≤ 16 → hexFold (dOf n) k = (valAt n k : Int)
  | 0, _ => by show (0 : Int) = _; unfold valAt; rw [Nat.div_eq_of_lt (by exact hn)]; rfl
  | k + 1, hk => by
    rw [hexFold, hexFold_dOf n hn k (by omega), bt_dOf n k (by omega), hexStep_dig _ _ (valAt_lt n k (by omega) hn) (dg_lt n k), valAt_succ n k (by omega)]
theorem cut_marker (B E : ByteArray) (n : Nat) (hn : n < 18446744073709551616) (hB : ∀ k, k < B.size → bt B k ≠ 91) {e : Ending} (h : Cut (B ++ marker n ++ E) e) :
    e = cutYes (cutS (B ++ marker n ++ E) B.size (B.size + 33)) n := by
  rw [line_marker] at h ⊢
  have := cut_hex B (dOf n) E hB (dOf_no93 n) (dOf_hex n) (by rw [size_dOf]; omega) h
  rw [this, size_dOf, hexFold_dOf n hn 16 (by omega)]
  show cutYes (cutS _ _ (B.size + 14 + 18 + 1)) _ = _
  unfold valAt; simp
/-- no blank beside: the line without the marker -/
theorem cutS_plain (B D E : ByteArray) (h1 : 0 < B.size → bt B (B.size - 1) ≠ 32) (h2 : 0 < E.size → bt E 0 ≠ 32) : cutS (lineOf B D E) B.size (B.size + 14 + D.size + 1) = B ++ E := by
  have hs := size_line B D E
  unfold cutS
  rw [if_neg (fun h => h1 h.1 (by rw [← line_B B D E _ (by omega)]; exact h.2)), if_neg (fun h => h2 (by omega) (by rw [← line_E B D E 0]; exact h.2))]
  congr 1
  · exact head_extract _ _
  · apply L_inj; rw [L_drop]; unfold lineOf
    rw [L_append, L_append, L_append, L_append, show B.size + 14 + D.size + 1 = (L B).length + ((L P14).length + ((L D).length + (L (⟨#[93]⟩ : ByteArray)).length)) by rw [L_len, L_len, L_len, L_len]; show _ = B.size + (14 + (D.size + 1)); omega, ← List.drop_drop, List.drop_left, ← List.drop_drop, List.drop_left, ← List.drop_drop, List.drop_left, List.drop_left]
/-- a blank ahead goes with the marker -/
theorem cutS_blank (B D E : ByteArray) : cutS (lineOf (B ++ ⟨#[32]⟩) D E) (B.size + 1) (B.size + 1 + 14 + D.size + 1) = B ++ E := by
  have hs : (B ++ ⟨#[32]⟩ : ByteArray).size = B.size + 1 := by rw [ByteArray.size_append]; rfl
  unfold cutS
  rw [if_pos ⟨by omega, by
    rw [line_B _ D E _ (by rw [hs]; omega), Nat.add_sub_cancel]
    have := bt_right B ⟨#[32]⟩ 0
    rw [Nat.add_zero] at this
    rw [this]; rfl⟩]
  congr 1
  · rw [Nat.add_sub_cancel]; unfold lineOf; rw [ByteArray.append_assoc]; exact head_extract _ _
  · generalize B ++ ⟨#[32]⟩ = B' at hs ⊢
    apply L_inj; rw [L_drop]; unfold lineOf
    rw [L_append, L_append, L_append, L_append, show B.size + 1 + 14 + D.size + 1 = (L B').length + ((L P14).length + ((L D).length + (L (⟨#[93]⟩ : ByteArray)).length)) by rw [L_len, L_len, L_len, L_len, hs]; show _ = B.size + 1 + (14 + (D.size + 1)); omega, ← List.drop_drop, List.drop_left, ← List.drop_drop, List.drop_left, ← List.drop_drop, List.drop_left, List.drop_left]
end Go.Proofs.Ytnjdckhaecdldaa
