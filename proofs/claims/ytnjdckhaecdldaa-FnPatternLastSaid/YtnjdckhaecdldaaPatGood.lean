/-
  Plain laws: a text with a byte that no pattern has is refused; a bit string with a digit ahead. No walk.
-/
import Derived.Test.YtnjdckhaecdldaaPatMore
set_option linter.unusedVariables false
namespace Go.Proofs.Ytnjdckhaecdldaa
open Go.RowKit Go.PlainAid

def goodC (c : UInt8) : Prop := (48 ≤ c.toNat ∧ c.toNat ≤ 57) ∨ (97 ≤ c.toNat ∧ c.toNat ≤ 122) ∨ (65 ≤ c.toNat ∧ c.toNat ≤ 90) ∨ c = 43 ∨ c = 45 ∨ c = 33
theorem step_good {c : UInt8} (h : ¬ goodC c) (n : Option UInt8) (st : PSt) : stepP c n st = none := by
  obtain ⟨res, bits, seg, wid, pos, list⟩ := st
  refine step_other ?_ ?_ ?_ ?_ ?_ ?_
  · rintro rfl; exact h (by unfold goodC; decide)
  · cases hd : isDig c with
    | false => rfl
    | true => exact absurd (by rcases dig_cases hd with rfl | rfl | rfl | rfl | rfl | rfl | rfl | rfl <;> (unfold goodC; decide)) h
  · cases hd : (c == 48 || c == 49) with
    | false => rfl
    | true =>
      have : c = 48 ∨ c = 49 := by simpa using hd
      exact absurd (by rcases this with rfl | rfl <;> (unfold goodC; decide)) h
  · cases hd : isHexL c with
    | false => rfl
    | true => exact absurd (by rcases hex_cases hd with rfl | rfl | rfl | rfl | rfl | rfl | rfl | rfl | rfl | rfl | rfl | rfl <;> (unfold goodC; decide)) h
  · rintro rfl; exact h (by unfold goodC; decide)
  · rintro (rfl | rfl) <;> exact h (by unfold goodC; decide)
theorem run_good : ∀ (l : Bs) (st : PSt), (∃ c ∈ l, ¬ goodC c) → runP l st = none
  | [], _, ⟨c, h, _⟩ => by simp at h
  | a :: l, st, ⟨c, h, hc⟩ => by
    rw [runP]
    rcases List.mem_cons.1 h with rfl | h
    · rw [step_good hc]; rfl
    · cases hs : stepP a l.head? st with
      | none => rfl
      | some st' => exact run_good l st' ⟨c, h, hc⟩
theorem main_good {l : Bs} (h : ∃ c ∈ l, ¬ goodC c) (v q e : Bool) : mainL l v q e = none := by
  rw [mainL, if_neg, run_good l _ h]
  · rfl
  · rintro rfl
    obtain ⟨c, h, hc⟩ := h
    simp at h
    subst h
    exact hc (by unfold goodC; decide)
theorem prefN_good : ∀ (l : Bs) (v q e : Bool), (∃ c ∈ l, ¬ goodC c) → ((dropN l e).bind fun x => mainL x.1 v q x.2) = none
  | [], _, _, _, ⟨c, h, _⟩ => by simp at h
  | a :: l, v, q, e, hx => by
    rw [dropN]
    split
    · rename_i ha
      have ha' : a = 33 := by simpa using ha
      split
      · rfl
      · obtain ⟨c, h, hc⟩ := hx
        rcases List.mem_cons.1 h with rfl | h
        · exact absurd (by rw [ha']; unfold goodC; decide) hc
        · exact prefN_good l v q (!e) ⟨c, h, hc⟩
    · exact main_good hx v q e
theorem prefV_good : ∀ (l : Bs) (v q : Bool), (∃ c ∈ l, ¬ goodC c) → ((dropV l v q).bind fun x => prefN x.1 x.2.1 x.2.2) = none
  | [], _, _, ⟨c, h, _⟩ => by simp at h
  | a :: l, v, q, hx => by
    rw [dropV]
    split
    · rename_i ha
      have ha' : a = 118 := by simpa using ha
      split
      · rfl
      · obtain ⟨c, h, hc⟩ := hx
        rcases List.mem_cons.1 h with rfl | h
        · exact absurd (by rw [ha']; unfold goodC; decide) hc
        · exact prefV_good l true false ⟨c, h, hc⟩
    · exact prefN_good (a :: l) v q true hx
theorem new_good (l : Bs) (hx : ∃ c ∈ l, ¬ goodC c) : newL l = none := by
  cases l with
  | nil => rfl
  | cons a l =>
    rw [newL]
    split
    · rename_i ha
      have ha' : a = 113 := by simpa using ha
      split
      · rfl
      · obtain ⟨c, h, hc⟩ := hx
        rcases List.mem_cons.1 h with rfl | h
        · exact absurd (by rw [ha']; unfold goodC; decide) hc
        · exact prefV_good l false true ⟨c, h, hc⟩
    · exact prefV_good (a :: l) false false hx
theorem judge_other {a b : Bs} {c : UInt8} (hc : ¬ goodC c) (id : Int) : judge (a ++ c :: b) id = ⟨false, false, false, false, false⟩ :=
  judge_none (by simp) (new_good _ ⟨c, by simp, hc⟩) id
/-- a digit ahead of a bit string -/
theorem valN_cons (c : UInt8) (b : Bs) : valN (c :: b) = (c.toNat - 48) * 2 ^ b.length + valN b := by
  induction b using snoc_induction with
  | h0 => simp [valN]
  | h1 b d ih =>
    rw [← List.cons_append, valN_snoc, valN_snoc, ih, List.length_append, show [d].length = 1 from rfl, Nat.pow_succ]
    rw [Nat.mul_add, ← Nat.mul_assoc, Nat.mul_comm 2 _, Nat.mul_assoc, Nat.mul_comm 2 _]
    omega
theorem bits_cons {b : Bs} (hb : isBitsL b) (hy : b ≠ [121]) (hl : b.length ≠ 60) {c : UInt8} (hc : c = 48 ∨ c = 49) : isBitsL (c :: b) ∧ c :: b ≠ [121] := by
  rcases hb with h | ⟨h1, h2, h3⟩
  · exact absurd h hy
  · refine ⟨.inr ⟨by simp, by simp; omega, fun x hx => ?_⟩, ?_⟩
    · rcases List.mem_cons.1 hx with rfl | h
      · exact hc
      · exact h3 x h
    · intro h; cases h; simp at hc
theorem ends_parts (N : Nat) (hN : N < 18446744073709551616) {b : Bs} (hb : isBitsL b) (hy : b ≠ [121]) (hl : b.length ≠ 60) : (endsB (N : Int) (48 :: b) || endsB (N : Int) (49 :: b)) = endsB (N : Int) b := by
  obtain ⟨a1, a2⟩ := bits_cons hb hy hl (c := 48) (.inl rfl)
  obtain ⟨b1, b2⟩ := bits_cons hb hy hl (c := 49) (.inr rfl)
  have hlt : valN b < 2 ^ b.length := by
    rcases hb with h | ⟨h1, h2, h3⟩
    · exact absurd h hy
    · exact (valB_N b h3 h2).2
  rw [Bool.eq_iff_iff, Bool.or_eq_true, endsB_bin N hN a1 a2, endsB_bin N hN b1 b2, endsB_bin N hN hb hy, valN_cons, valN_cons]
  rw [show ((48 : UInt8).toNat - 48) = 0 from rfl, show ((49 : UInt8).toNat - 48) = 1 from rfl, show (48 :: b : Bs).length = b.length + 1 from rfl, show (49 :: b : Bs).length = b.length + 1 from rfl, show N % 2 ^ (b.length + 1) = N % 2 ^ b.length + 2 ^ b.length * (N / 2 ^ b.length % 2) by rw [Nat.pow_succ, Nat.mod_mul]]
  have hm : N % 2 ^ b.length < 2 ^ b.length := Nat.mod_lt _ (Nat.two_pow_pos _)
  have hd : N / 2 ^ b.length % 2 = 0 ∨ N / 2 ^ b.length % 2 = 1 := by omega
  rcases hd with h | h
  · rw [h]; constructor
    · rintro (h | h) <;> omega
    · intro h; left; omega
  · rw [h]; constructor
    · rintro (h | h) <;> omega
    · intro h; right; omega
theorem parts_plus (N : Nat) (hN : N < 18446744073709551616) {b : Bs} (hb : isBitsL b) (hy : b ≠ [121]) (hl : b.length ≠ 60) : judge (48 :: b ++ 43 :: 49 :: b) (N : Int) = judge b (N : Int) := by
  obtain ⟨a1, _⟩ := bits_cons hb hy hl (c := 48) (.inl rfl)
  obtain ⟨b1, _⟩ := bits_cons hb hy hl (c := 49) (.inr rfl)
  have h := ends_parts N hN hb hy hl
  rw [judge_terms (.inr (.inr ⟨rfl, .more a1 (.inl rfl) (fun _ => rfl) (.last b1)⟩)) N hN, judge_terms (s := b) (.inr (.inr ⟨rfl, .last hb⟩)) N hN]
  simp only [holdsTo, List.foldl]
  rw [← h]
  cases endsB (N : Int) (48 :: b) <;> cases endsB (N : Int) (49 :: b) <;> rfl
theorem parts_minus (N : Nat) (hN : N < 18446744073709551616) {b : Bs} (hb : isBitsL b) (hy : b ≠ [121]) (hl : b.length ≠ 60) : judge (b ++ 45 :: (48 :: b ++ 45 :: 49 :: b)) (N : Int) = ⟨true, false, false, false, true⟩ := by
  obtain ⟨a1, _⟩ := bits_cons hb hy hl (c := 48) (.inl rfl)
  obtain ⟨b1, _⟩ := bits_cons hb hy hl (c := 49) (.inr rfl)
  have h := ends_parts N hN hb hy hl
  rw [judge_terms (.inr (.inr ⟨rfl, .more hb (.inr rfl) (fun _ => rfl) (.more a1 (.inr rfl) (fun h => by cases h) (.last b1))⟩)) N hN]
  simp only [holdsTo, List.foldl]
  rw [← h]
  cases endsB (N : Int) (48 :: b) <;> cases endsB (N : Int) (49 :: b) <;> rfl
end Go.Proofs.Ytnjdckhaecdldaa
