/-
  The walk of the law FnPatternOther. For every input.
-/
import Derived.Test.YtnjdckhaecdldaaPatWords
import Derived.Test.YtnjdckhaecdldaaPatGood
set_option linter.unusedVariables false
namespace Go.Proofs.Ytnjdckhaecdldaa
open Go.RowKit Go.PlainAid

theorem row_one (W : World) (c : UInt8) (t : TypeId) : Row (W.alloc (.cells #[.int .u8 (c.toNat : Int)] t)) 0 1 (.slice (some ⟨W.heap.size, 0, none⟩) 1 1) (mkB [c]).size (byteCells (mkB [c])) := by
  refine ⟨rfl, fun g hg => ?_, _, 1, rfl, Nat.le_refl _, by simp [maxLen], fun _ => ⟨W.heap.size, 0, rfl, Nat.zero_le _, by simp, fun j hj => ?_, fun j h1 h2 => ?_⟩⟩
  · simp [Value.ownBlock] at hg; subst hg; exact ⟨Nat.zero_le _, by simp⟩
  · have : j = 0 := by simp [size_mkB] at hj; omega
    subst this
    rw [World.cell?_alloc_new]; rfl
  · simp [size_mkB] at h1; omega
theorem byte_nat {c : Int} (h : (Lit.int .u8 c).wf = true) : ∃ b : UInt8, c = (b.toNat : Int) := by
  have h2 := bounds_u8 h
  exact ⟨UInt8.ofNat c.toNat, by rw [UInt8.toNat_ofNat']; omega⟩
theorem byte_cases (c : UInt8) : (48 ≤ (c.toNat : Int) ∧ (c.toNat : Int) ≤ 57) ∨ (97 ≤ (c.toNat : Int) ∧ (c.toNat : Int) ≤ 122) ∨ (65 ≤ (c.toNat : Int) ∧ (c.toNat : Int) ≤ 90) ∨ (43 ≤ (c.toNat : Int) ∧ (c.toNat : Int) ≤ 43) ∨ (45 ≤ (c.toNat : Int) ∧ (c.toNat : Int) ≤ 45) ∨ (33 ≤ (c.toNat : Int) ∧ (c.toNat : Int) ≤ 33) ∨
    (0 ≤ (c.toNat : Int) ∧ (c.toNat : Int) < 33) ∨ (33 < (c.toNat : Int) ∧ (c.toNat : Int) < 43) ∨ (43 < (c.toNat : Int) ∧ (c.toNat : Int) < 45) ∨ (45 < (c.toNat : Int) ∧ (c.toNat : Int) < 48) ∨ (57 < (c.toNat : Int) ∧ (c.toNat : Int) < 65) ∨ (90 < (c.toNat : Int) ∧ (c.toNat : Int) < 97) ∨ (122 < (c.toNat : Int) ∧ (c.toNat : Int) < 256) := by
  have := c.toNat_lt
  omega
theorem not_good {c : UInt8} (h : ((c.toNat : Int) < 33) ∨ (33 < (c.toNat : Int) ∧ (c.toNat : Int) < 43) ∨ (43 < (c.toNat : Int) ∧ (c.toNat : Int) < 45) ∨ (45 < (c.toNat : Int) ∧ (c.toNat : Int) < 48) ∨ (57 < (c.toNat : Int) ∧ (c.toNat : Int) < 65) ∨ (90 < (c.toNat : Int) ∧ (c.toNat : Int) < 97) ∨ (122 < (c.toNat : Int))) : ¬ goodC c := by
  unfold goodC
  rintro (h1 | h1 | h1 | rfl | rfl | rfl)
  · omega
  · omega
  · omega
  all_goals simp at h
set_option maxRecDepth 100000 in
set_option maxHeartbeats 4000000 in
theorem walkFnPatternOther (w : World) (t : ByteArray) (wt : t.size ≤ maxLen) (c : Int) (wc : (Lit.int .u8 c).wf = true) (r : ByteArray) (wr : r.size ≤ maxLen) (id : Int) (wi : (Lit.int .u64 id).wf = true)  :
    Calls Try.prog 6 #[.string t, .int .u8 c, .string r, .int .u64 id] w fun e w' => e = .returned (.bool true) ∧ Below w.heap.size w w' := by
  unfold maxLen at wt wr
  obtain ⟨N, rfl, hN⟩ := id_nat wi
  clear wi
  obtain ⟨c, rfl⟩ := byte_nat wc
  clear wc
  by_cases g0 : 2147483647 < t.size
  · go_enter Try.func6, Try.ntmps6
    go_wp2
    go_ret
    exact ⟨rfl, Below.refl _ _⟩
  by_cases g1 : 2147483647 < r.size
  · go_enter Try.func6, Try.ntmps6
    go_wp2
    go_ret
    exact ⟨rfl, Below.refl _ _⟩
  by_cases gs : 1000000 < t.size + r.size
  · go_enter Try.func6, Try.ntmps6
    go_wp2_with (go_at_call 8; refine (tooLong_yes2 _ _ _ (by omega) (by omega) (by omega) (by omega) (by omega)).mono ?_; rintro e w' ⟨rfl, rfl⟩)
    go_ret
    exact ⟨rfl, (Below.refl _ _).alloc (Nat.le_refl _) _⟩
  have HB0 := Lib.hid ((Below.refl w.heap.size w).alloc (Nat.le_refl _) (.cells #[.int .i64 (t.size : Int), .int .i64 (r.size : Int)] 3))
  go_enter Try.func6, Try.ntmps6
  go_upto_region 5 with (go_at_call 8; refine (tooLong_no2 _ _ _ (by omega) (by omega) (by omega)).mono ?_; rintro e w' ⟨rfl, rfl⟩)
  have hL : ∀ x : ByteArray, L (x ++ mkB [c] ++ r) = L x ++ c :: L r := fun x => by rw [L_append, L_append, L_mkB, List.append_assoc]; rfl
  have HL := Lib.hid hL
  clear hL
  have hcs := byte_cases c
  rcases hcs with h | h | h | h | h | h | h | h | h | h | h | h | h
  iterate 3
    · obtain ⟨c1, c2⟩ := h
      go_wp2_with fail
      refine (works_any _).mono ?_
      rintro e w1 ⟨rfl, h5⟩
      have HB1 := Lib.hid (HB0.out.trans (h5.mono HB0.out.size))
      clear h5 HB0
      go_wp2
      go_ret
      exact ⟨rfl, HB1.out⟩
  · have e43 : ((c.toNat : Int) == 43) = true := by simp; omega
    go_wp2_with fail
    refine (works_any _).mono ?_
    rintro e w1 ⟨rfl, h5⟩
    have HB1 := Lib.hid (HB0.out.trans (h5.mono HB0.out.size))
    clear h5 HB0
    go_wp2
    go_ret
    exact ⟨rfl, HB1.out⟩
  · have e43 : ((c.toNat : Int) == 43) = false := by simp; omega
    have e45 : ((c.toNat : Int) == 45) = true := by simp; omega
    go_wp2_with fail
    refine (works_any _).mono ?_
    rintro e w1 ⟨rfl, h5⟩
    have HB1 := Lib.hid (HB0.out.trans (h5.mono HB0.out.size))
    clear h5 HB0
    go_wp2
    go_ret
    exact ⟨rfl, HB1.out⟩
  · have e43 : ((c.toNat : Int) == 43) = false := by simp; omega
    have e45 : ((c.toNat : Int) == 45) = false := by simp; omega
    have e33 : ((c.toNat : Int) == 33) = true := by simp; omega
    go_wp2_with fail
    refine (works_any _).mono ?_
    rintro e w1 ⟨rfl, h5⟩
    have HB1 := Lib.hid (HB0.out.trans (h5.mono HB0.out.size))
    clear h5 HB0
    go_wp2
    go_ret
    exact ⟨rfl, HB1.out⟩
  all_goals
    obtain ⟨c1, c2⟩ := h
    have e43 : ((c.toNat : Int) == 43) = false := by simp; omega
    have e45 : ((c.toNat : Int) == 45) = false := by simp; omega
    have e33 : ((c.toNat : Int) == 33) = false := by simp; omega
    have hz1 : (mkB [c]).size = 1 := size_mkB [c]
    have HJ := Lib.hid (judge_other (a := L t) (b := L r) (c := c) (not_good (by omega)) (N : Int))
    have hf := @field0
    go_wp2_with fail
    refine (works_any _).mono ?_
    rintro e w1 ⟨rfl, h5⟩
    have HB1 := Lib.hid (HB0.out.trans (h5.mono HB0.out.size))
    clear h5 HB0
    have hcv := run_string_row (P := Try.prog) _ Try.underlying54 Try.underlying5 (row_one w1 c 5) 9 Try.underlying9
    go_wp2_with fail
    refine (judge_any _ (N : Int) _ ?_).mono ?_
    · rw [ByteArray.size_append, ByteArray.size_append, size_mkB]; show t.size + 1 + r.size ≤ _; omega
    rintro e w2 ⟨rfl, h5⟩
    have HB2 := Lib.hid ((HB1.out.alloc HB1.out.size _).trans (h5.mono (by simp; exact Nat.le_succ_of_le HB1.out.size)))
    clear h5 HB1 hcv
    rw [HL.out, HJ.out, Verd.V]
    go_wp2
    go_ret
    exact ⟨rfl, HB2.out⟩
end Go.Proofs.Ytnjdckhaecdldaa
