/-
  The walk of the law FnPatternEmpty. For every input.
-/
import Derived.Test.YtelmpgonfcgjnaaPatWords
import Derived.Test.YtelmpgonfcgjnaaPatMore
set_option linter.unusedVariables false
namespace Go.Proofs.Ytelmpgonfcgjnaa
open Go.RowKit Go.PlainAid

set_option maxRecDepth 100000 in
set_option maxHeartbeats 4000000 in
theorem walkFnPatternEmpty (w : World) (t : ByteArray) (wt : t.size ≤ maxLen) (id : Int) (wi : (Lit.int .u64 id).wf = true) :
    Calls Try.prog 5 #[.string t, .int .u64 id] w fun e w' => e = .returned (.bool true) ∧ Below w.heap.size w w' := by
  unfold maxLen at wt
  obtain ⟨N, rfl, hN⟩ := id_nat wi
  clear wi
  by_cases g0 : 2147483647 < t.size
  · go_enter Try.func5, Try.ntmps5
    go_wp2
    go_ret
    exact ⟨rfl, Below.refl _ _⟩
  by_cases gs : 1000000 < t.size
  · go_enter Try.func5, Try.ntmps5
    go_wp2_with (go_at_call 15; refine (tooLong_yes1 _ _ (by omega) (by omega) (by omega)).mono ?_; rintro e w' ⟨rfl, rfl⟩)
    go_ret
    exact ⟨rfl, (Below.refl _ _).alloc (Nat.le_refl _) _⟩
  have HB0 := Lib.hid ((Below.refl w.heap.size w).alloc (Nat.le_refl _) (.cells #[.int .i64 (t.size : Int)] 3))
  go_enter Try.func5, Try.ntmps5
  go_wp2_with (go_at_call 15; refine (tooLong_no1 _ _ (by omega) (by omega)).mono ?_; rintro e w' ⟨rfl, rfl⟩)
  refine (readPattern_any _ _ ?_).mono ?_
  · omega
  rintro e wr0 ⟨⟨dis0, vis0, all0, ts0⟩, sv0, ok0, he, h1, h2, h3, h4, h5⟩
  dsimp only at he h1 h2 h3 h4
  subst he
  have HO0 := Lib.hid h1
  obtain ⟨ao0, cap0, rfl⟩ := h2.shape
  have HB1' := Lib.hid (HB0.out.trans (h5.mono HB0.out.size))
  have HB1 := Lib.hid (HB1'.out.alloc HB1'.out.size (.cells #[.bool dis0, .bool vis0, .bool all0, .slice ao0 ts0.length cap0] 25))
  clear h1 h2 h3 h4 h5 HB0 HB1'
  have hf := @field0
  cases ok0 with
  | false =>
    go_wp2_with fail
    refine (works_any _).mono ?_
    rintro e w2 ⟨rfl, h5⟩
    have HB2 := Lib.hid (HB1.out.trans (h5.mono HB1.out.size))
    clear h5 HB1
    go_wp2_with fail
    refine (judge_any _ (N : Int) _ ?_).mono ?_
    · decide
    rintro e w3 ⟨rfl, h5⟩
    have HB3 := Lib.hid (HB2.out.trans (h5.mono HB2.out.size))
    clear h5 HB2
    rw [show judge (L ⟨#[33]⟩) (N : Int) = ⟨false, false, false, false, false⟩ from rfl, Verd.V]
    go_wp2_with fail
    refine (judge_any _ (N : Int) _ ?_).mono ?_
    · decide
    rintro e w4 ⟨rfl, h5⟩
    have HB4 := Lib.hid (HB3.out.trans (h5.mono HB3.out.size))
    clear h5 HB3
    rw [show judge (L ⟨#[118]⟩) (N : Int) = ⟨false, false, false, false, false⟩ from rfl, Verd.V]
    go_wp2_with fail
    refine (judge_any _ (N : Int) _ ?_).mono ?_
    · decide
    rintro e w5 ⟨rfl, h5⟩
    have HB5 := Lib.hid (HB4.out.trans (h5.mono HB4.out.size))
    clear h5 HB4
    rw [show judge (L ⟨#[43]⟩) (N : Int) = ⟨false, false, false, false, false⟩ from rfl, Verd.V]
    go_wp2_with fail
    refine (judge_any _ (N : Int) _ ?_).mono ?_
    · decide
    rintro e w6 ⟨rfl, h5⟩
    have HB6 := Lib.hid (HB5.out.trans (h5.mono HB5.out.size))
    clear h5 HB5
    rw [show judge (L ⟨#[45]⟩) (N : Int) = ⟨false, false, false, false, false⟩ from rfl, Verd.V]
    go_wp2
    go_ret
    exact ⟨rfl, HB6.out⟩
  | true =>
    have hj1 := empty_sign (b := []) (HO0.out rfl) (.inl rfl) (N : Int)
    have hj2 := empty_sign (b := [45, 48]) (HO0.out rfl) (.inr ⟨_, rfl⟩) (N : Int)
    have hL1 : L (t ++ ⟨#[45]⟩) = L t ++ [45] := by rw [L_append]; rfl
    have hL2 : L (t ++ ⟨#[45, 45, 48]⟩) = L t ++ [45, 45, 48] := by rw [L_append]; rfl
    rw [← hL1] at hj1
    rw [← hL2] at hj2
    have HJ1 := Lib.hid hj1
    have HJ2 := Lib.hid hj2
    clear hj1 hj2 hL1 hL2
    go_wp2_with fail
    refine (works_any _).mono ?_
    rintro e w2 ⟨rfl, h5⟩
    have HB2 := Lib.hid (HB1.out.trans (h5.mono HB1.out.size))
    clear h5 HB1
    go_wp2_with fail
    refine (judge_any _ (N : Int) _ ?_).mono ?_
    · first | omega | (rw [ByteArray.size_append]; omega) | (rw [ByteArray.size_append, ByteArray.size_append]; omega) | (rw [ByteArray.size_append, show (⟨#[45]⟩ : ByteArray).size = 1 from rfl]; omega) | (rw [ByteArray.size_append, ByteArray.size_append, show (⟨#[45]⟩ : ByteArray).size = 1 from rfl]; omega)
    rintro e w3 ⟨rfl, h5⟩
    have HB3 := Lib.hid (HB2.out.trans (h5.mono HB2.out.size))
    clear h5 HB2
    rw [HJ1.out, Verd.V]
    go_wp2_with fail
    refine (judge_any _ (N : Int) _ ?_).mono ?_
    · first | omega | (rw [ByteArray.size_append]; omega) | (rw [ByteArray.size_append, ByteArray.size_append]; omega) | (rw [ByteArray.size_append, show (⟨#[45, 45, 48]⟩ : ByteArray).size = 3 from rfl]; omega) | (rw [ByteArray.size_append, ByteArray.size_append, show (⟨#[45, 45, 48]⟩ : ByteArray).size = 3 from rfl]; omega)
    rintro e w4 ⟨rfl, h5⟩
    have HB4 := Lib.hid (HB3.out.trans (h5.mono HB3.out.size))
    clear h5 HB3
    rw [HJ2.out, Verd.V]
    go_wp2
    go_ret
    exact ⟨rfl, HB4.out⟩
end Go.Proofs.Ytelmpgonfcgjnaa
