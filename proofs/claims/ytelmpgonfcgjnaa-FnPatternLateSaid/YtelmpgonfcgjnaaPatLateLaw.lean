/-
  The walk of the law FnPatternLate. For every input.
-/
import Derived.Test.YtelmpgonfcgjnaaPatWords
import Derived.Test.YtelmpgonfcgjnaaPatMore
import Derived.Test.YtelmpgonfcgjnaaHas
set_option linter.unusedVariables false
namespace Go.Proofs.Ytelmpgonfcgjnaa
open Go.RowKit Go.PlainAid

set_option maxRecDepth 100000 in
set_option maxHeartbeats 4000000 in
theorem walkFnPatternLate (w : World) (t : ByteArray) (wt : t.size ≤ maxLen) (b : ByteArray) (wb : b.size ≤ maxLen) (id : Int) (wi : (Lit.int .u64 id).wf = true) :
    Calls Try.prog 7 #[.string t, .string b, .int .u64 id] w fun e w' => e = .returned (.bool true) ∧ Below w.heap.size w w' := by
  unfold maxLen at wt wb
  obtain ⟨N, rfl, hN⟩ := id_nat wi
  clear wi
  by_cases g0 : 2147483647 < t.size
  · go_enter Try.func7, Try.ntmps7
    go_wp2
    go_ret
    exact ⟨rfl, Below.refl _ _⟩
  by_cases g1 : 2147483647 < b.size
  · go_enter Try.func7, Try.ntmps7
    go_wp2
    go_ret
    exact ⟨rfl, Below.refl _ _⟩
  by_cases gs : 1000000 < t.size + b.size
  · go_enter Try.func7, Try.ntmps7
    go_wp2_with (go_at_call 15; refine (tooLong_yes2 _ _ _ (by omega) (by omega) (by omega) (by omega) (by omega)).mono ?_; rintro e w' ⟨rfl, rfl⟩)
    go_ret
    exact ⟨rfl, (Below.refl _ _).alloc (Nat.le_refl _) _⟩
  have HB0 := Lib.hid ((Below.refl w.heap.size w).alloc (Nat.le_refl _) (.cells #[.int .i64 (t.size : Int), .int .i64 (b.size : Int)] 3))
  go_enter Try.func7, Try.ntmps7
  go_wp2_with (go_at_call 15; refine (tooLong_no2 _ _ _ (by omega) (by omega) (by omega)).mono ?_; rintro e w' ⟨rfl, rfl⟩)
  refine (readPattern_any _ _ ?_).mono ?_
  · omega
  rintro e wr0 ⟨⟨dis0, vis0, all0, ts0⟩, sv0, ok0, he, h1, h2, h3, h4, h5⟩
  dsimp only at he h1 h2 h3 h4
  subst he
  have HO0 := Lib.hid h1
  obtain ⟨ao0, cap0, rfl⟩ := h2.shape
  have HB1' := Lib.hid (HB0.out.trans (h5.mono HB0.out.size))
  have HB1 := Lib.hid (HB1'.out.alloc HB1'.out.size (.cells #[.bool dis0, .bool vis0, .bool all0, .slice ao0 ts0.length cap0] 25))
  clear h1 h2 h3 h4 h5 HB0 HB1'
  cases ok0 with
  | false =>
    go_wp2_with fail
    refine (works_any _).mono ?_
    rintro e w2 ⟨rfl, h5⟩
    have HB2 := Lib.hid (HB1.out.trans (h5.mono HB1.out.size))
    clear h5 HB1
    go_wp2
    go_ret
    exact ⟨rfl, HB2.out⟩
  | true =>
  have HRD := Lib.hid (HO0.out rfl)
  by_cases hm : ∃ q, q < t.size ∧ bt t q = 45
  · obtain ⟨q, hq, hq2⟩ := hm
    have HM : Hid ((45 : UInt8) ∈ L t) := by
      have hl : q < (L t).length := by rw [L_len]; exact hq
      rw [bt_L t q hq] at hq2
      have : (L t)[q] = 45 := (u8_is (n := 45) (by omega)).1 (by simpa using hq2)
      exact this ▸ List.getElem_mem hl
    go_wp2_with fail
    refine (has_yes t 45 _ (by unfold maxLen; omega) q hq hq2).mono ?_
    rintro e w' ⟨rfl, rfl⟩
    go_wp2_with fail
    refine (isBits_any b (by omega) _).mono ?_
    rintro e w' ⟨bb, rfl, rfl, hbb⟩
    clear hq2
    cases bb with
    | false =>
      clear hbb
      go_wp2_with fail
      refine (works_any _).mono ?_
      rintro e w2 ⟨rfl, h5⟩
      have HB2 := Lib.hid (HB1.out.trans (h5.mono HB1.out.size))
      clear h5 HB1
      go_wp2
      go_ret
      exact ⟨rfl, HB2.out⟩
    | true =>
      have hj := late (b := L b) HRD.out HM.out (N : Int)
      have hL : L (t ++ ⟨#[43]⟩ ++ b) = L t ++ 43 :: L b := by rw [L_append, L_append, List.append_assoc]; rfl
      rw [← hL] at hj
      have HJ := Lib.hid hj
      have hf := @field0
      clear hbb hj hL
      go_wp2_with fail
      refine (works_any _).mono ?_
      rintro e w2 ⟨rfl, h5⟩
      have HB2 := Lib.hid (HB1.out.trans (h5.mono HB1.out.size))
      clear h5 HB1
      go_wp2_with fail
      refine (judge_any _ (N : Int) _ ?_).mono ?_
      · first | omega | (rw [ByteArray.size_append]; omega) | (rw [ByteArray.size_append, ByteArray.size_append]; omega) | (rw [ByteArray.size_append, show (⟨#[43]⟩ : ByteArray).size = 1 from rfl]; omega) | (rw [ByteArray.size_append, ByteArray.size_append, show (⟨#[43]⟩ : ByteArray).size = 1 from rfl]; omega)
      rintro e w3 ⟨rfl, h5⟩
      have HB3 := Lib.hid (HB2.out.trans (h5.mono HB2.out.size))
      clear h5 HB2
      rw [HJ.out, Verd.V]
      go_wp2
      go_ret
      exact ⟨rfl, HB3.out⟩
  · go_wp2_with fail
    refine (has_no t 45 _ (by unfold maxLen; omega) (fun k hk h => hm ⟨k, hk, h⟩)).mono ?_
    rintro e w' ⟨rfl, rfl⟩
    clear hm
    go_wp2_with fail
    refine (works_any _).mono ?_
    rintro e w2 ⟨rfl, h5⟩
    have HB2 := Lib.hid (HB1.out.trans (h5.mono HB1.out.size))
    clear h5 HB1
    go_wp2
    go_ret
    exact ⟨rfl, HB2.out⟩
end Go.Proofs.Ytelmpgonfcgjnaa
