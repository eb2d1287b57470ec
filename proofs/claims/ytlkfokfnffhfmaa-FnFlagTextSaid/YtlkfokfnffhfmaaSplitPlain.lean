/-
  Plain steps of Split over texts: what one round does to what is left. No program in sight.
-/
import Derived.Test.YtlkfokfnffhfmaaBytes
import Derived.Test.YtlkfokfnffhfmaaQPlain
namespace Go.Proofs.Ytlkfokfnffhfmaa
open Go.PlainAid

def spI (c : Int) : Bool := c == 32 || c == 9 || c == 10 || c == 13
def qI (c : Int) : Bool := c == 34 || c == 39
theorem u8_beq (b : UInt8) (n : Nat) (hn : n < 256) : ((b.toNat : Int) == (n : Int)) = (b == UInt8.ofNat n) := by
  rw [Bool.eq_iff_iff]; simp only [beq_iff_eq]; exact u8_is hn
theorem spI_isSp (b : UInt8) : spI (b.toNat : Int) = isSp b := by
  unfold spI isSp
  rw [show (32 : Int) = ((32 : Nat) : Int) from rfl, show (9 : Int) = ((9 : Nat) : Int) from rfl, show (10 : Int) = ((10 : Nat) : Int) from rfl, show (13 : Int) = ((13 : Nat) : Int) from rfl, u8_beq b 32 (by omega), u8_beq b 9 (by omega), u8_beq b 10 (by omega), u8_beq b 13 (by omega)]
  rfl
theorem qI_isQ (b : UInt8) : qI (b.toNat : Int) = isQ b := by
  unfold qI isQ
  rw [show (34 : Int) = ((34 : Nat) : Int) from rfl, show (39 : Int) = ((39 : Nat) : Int) from rfl, u8_beq b 34 (by omega), u8_beq b 39 (by omega)]
  rfl

/-- a text taken apart at k -/
theorem L_split (t : ByteArray) (k : Nat) (h : k < t.size) : ∃ c, L t = L (t.extract 0 k) ++ c :: L (t.extract (k + 1) t.size) ∧ bt t k = (c.toNat : Int) := by
  have hl : k < (L t).length := by rw [L_len]; exact h
  refine ⟨(L t)[k], ?_, bt_L t k h⟩
  rw [L_drop, L_take]
  conv => lhs; rw [← List.take_append_drop k (L t), List.drop_eq_getElem_cons hl]
theorem mem_take (t : ByteArray) (k : Nat) (hk : k ≤ t.size) {b : UInt8} (hb : b ∈ L (t.extract 0 k)) : ∃ j, j < k ∧ bt t j = (b.toNat : Int) := by
  rw [L_take] at hb
  obtain ⟨j, hj, rfl⟩ := List.getElem_of_mem hb
  have hj' : j < k := by simp at hj; omega
  refine ⟨j, hj', ?_⟩
  rw [bt_L t j (by omega)]
  simp

theorem step_skip (t : ByteArray) (h : 0 < t.size) (hs : spI (bt t 0) = true) : splitL (L (t.extract 1 t.size)) = splitL (L t) := by
  obtain ⟨c, e, hc⟩ := L_cons t h
  rw [hc, spI_isSp] at hs
  rw [e, splitL_sp c _ hs]
theorem step_quote (t : ByteArray) (h : 0 < t.size) (hq : qI (bt t 0) = true) (k : Nat) (hk : k < (t.extract 1 t.size).size) (ha : ∀ j, j < k → bt (t.extract 1 t.size) j ≠ bt t 0) (hb : bt (t.extract 1 t.size) k = bt t 0) :
    splitL (L t) = (splitL (L ((t.extract 1 t.size).extract (k + 1) (t.extract 1 t.size).size))).map (L ((t.extract 1 t.size).extract 0 k) :: ·) := by
  obtain ⟨c, e, hc⟩ := L_cons t h
  obtain ⟨d, e2, hd⟩ := L_split (t.extract 1 t.size) k hk
  have hdc : d = c := u8_eq.1 (by rw [← hd, ← hc, hb])
  subst hdc
  rw [hc, qI_isQ] at hq
  rw [e, e2, splitL_quoted d _ _ hq]
  intro hm
  obtain ⟨j, hj, hjb⟩ := mem_take _ k (by omega) hm
  exact ha j hj (by rw [hjb, hc])
theorem step_missing (t : ByteArray) (h : 0 < t.size) (hq : qI (bt t 0) = true) (ha : ∀ j, j < (t.extract 1 t.size).size → bt (t.extract 1 t.size) j ≠ bt t 0) : splitL (L t) = none := by
  obtain ⟨c, e, hc⟩ := L_cons t h
  rw [hc, qI_isQ] at hq
  rw [e, splitL_missing c _ hq]
  intro hm
  obtain ⟨j, hj, rfl⟩ := List.getElem_of_mem hm
  rw [L_len] at hj
  exact ha j hj (by rw [hc, bt_L _ j hj])
theorem step_bare (t : ByteArray) (h : 0 < t.size) (hs : spI (bt t 0) = false) (hq : qI (bt t 0) = false) (k : Nat) (hk : k ≤ t.size) (ha : ∀ j, j < k → spI (bt t j) = false) (hb : k = t.size ∨ spI (bt t k) = true) :
    splitL (L t) = (splitL (L (t.extract k t.size))).map (L (t.extract 0 k) :: ·) := by
  have hk0 : 0 < k := by
    rcases Nat.eq_zero_or_pos k with rfl | h0
    · rcases hb with hb | hb
      · omega
      · rw [hs] at hb; cases hb
    · exact h0
  obtain ⟨c, e, hc⟩ := L_cons t h
  have ht : L t = L (t.extract 0 k) ++ L (t.extract k t.size) := by rw [L_take, L_drop, List.take_append_drop]
  rw [ht]
  rw [hc, qI_isQ] at hq
  refine splitL_word _ _ c ?_ hq (fun b hb' => ?_) ?_
  · rw [L_take, e]
    obtain ⟨k', rfl⟩ : ∃ k', k = k' + 1 := ⟨k - 1, by omega⟩
    rfl
  · obtain ⟨j, hj, hjb⟩ := mem_take t k hk hb'
    have := ha j hj
    rw [hjb, spI_isSp] at this
    exact this
  · rcases hb with hb | hb
    · left; rw [L_drop]; exact List.drop_of_length_le (by rw [L_len]; omega)
    · right
      by_cases hlt : k < t.size
      · obtain ⟨d, e2, hd⟩ := L_split t k hlt
        refine ⟨d, L (t.extract (k + 1) t.size), ?_, by rw [← spI_isSp, ← hd]; exact hb⟩
        rw [ht] at e2
        exact List.append_cancel_left e2
      · rw [bt_end t (by omega)] at hb; simp [spI] at hb
/-- how the fields so far and what is left make the whole -/
def Rest (l : Bs) (acc : List Bs) (t : Bs) : Prop := splitL l = (splitL t).map (acc ++ ·)
theorem Rest.start (l : Bs) : Rest l [] l := by simp [Rest]
theorem Rest.same {l : Bs} {acc : List Bs} {t t' : Bs} (h : Rest l acc t) (e : splitL t' = splitL t) : Rest l acc t' := by unfold Rest at *; rw [h, e]
theorem Rest.push {l : Bs} {acc : List Bs} {t t' x : Bs} (h : Rest l acc t) (e : splitL t = (splitL t').map (x :: ·)) : Rest l (acc ++ [x]) t' := by
  unfold Rest at *; rw [h, e, Option.map_map]; congr 1; funext r; simp
theorem Rest.done {l : Bs} {acc : List Bs} {t : Bs} (h : Rest l acc t) (e : splitL t = some []) : splitL l = some acc := by unfold Rest at h; rw [h, e]; simp
theorem Rest.miss {l : Bs} {acc : List Bs} {t : Bs} (h : Rest l acc t) (e : splitL t = none) : splitL l = none := by unfold Rest at h; rw [h, e]; rfl
end Go.Proofs.Ytlkfokfnffhfmaa
