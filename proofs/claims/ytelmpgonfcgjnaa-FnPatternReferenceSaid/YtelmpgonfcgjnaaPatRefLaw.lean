/-
  The walk of the law FnPatternReference. For every input.
-/
import Derived.Test.YtelmpgonfcgjnaaPatWords
set_option linter.unusedVariables false
namespace Go.Proofs.Ytelmpgonfcgjnaa
open Go.RowKit Go.PlainAid

set_option maxHeartbeats 4000000 in
theorem walkFnPatternReference (w : World) (t : ByteArray) (wt : t.size ≤ maxLen) (id : Int) (wi : (Lit.int .u64 id).wf = true) :
    Calls Try.prog 12 #[.string t, .int .u64 id] w fun e w' => e = .returned (.bool true) ∧ Below w.heap.size w w' := by
  unfold maxLen at wt
  obtain ⟨N, rfl, hN⟩ := id_nat wi
  clear wi
  by_cases gt : 2147483647 < t.size
  · go_enter Try.func12, Try.ntmps12
    go_wp2
    go_ret
    exact ⟨rfl, Below.refl _ _⟩
  by_cases gt : 1000000 < t.size
  · go_enter Try.func12, Try.ntmps12
    go_wp2_with (go_at_call 15; refine (tooLong_yes1 _ _ (by omega) (by omega) (by omega)).mono ?_; rintro e w' ⟨rfl, rfl⟩)
    go_ret
    exact ⟨rfl, (Below.refl _ _).alloc (Nat.le_refl _) _⟩
  have HB0 := Lib.hid ((Below.refl w.heap.size w).alloc (Nat.le_refl _) (.cells #[.int .i64 (t.size : Int)] 3))
  go_enter Try.func12, Try.ntmps12
  go_wp2_with (go_at_call 15; refine (tooLong_no1 _ _ (by omega) (by omega)).mono ?_; rintro e w' ⟨rfl, rfl⟩)
  refine (readPattern_any t _ (by omega)).mono ?_
  rintro e w1 ⟨pat, sv, ok, rfl, h1, h2, h3, h4, h5⟩
  have HB1 := Lib.hid (HB0.out.trans (h5.mono HB0.out.size))
  have HO := Lib.hid h1
  have HR := Lib.hid h2
  have HT := Lib.hid h3
  obtain ⟨ao, cap, rfl⟩ := h2.shape
  clear h1 h2 h3 h5 HB0
  go_wp2_with fail
  have HA := Lib.hid (At.new w1 #[.bool pat.disable, .bool pat.visible, .bool pat.all, .slice ao pat.terms.length cap] 25)
  refine (judge_any t (N : Int) _ (by omega)).mono ?_
  rintro e w2 ⟨rfl, h5⟩
  have HB2 := Lib.hid ((HB1.out.alloc HB1.out.size (.cells #[.bool pat.disable, .bool pat.visible, .bool pat.all, .slice ao pat.terms.length cap] 25)).trans (h5.mono (by simp; exact Nat.le_succ_of_le HB1.out.size)))
  have HA2 := Lib.hid (HA.out.below h5)
  have HR2 := Lib.hid ((HR.out.alloc (.cells #[.bool pat.disable, .bool pat.visible, .bool pat.all, .slice ao pat.terms.length cap] 25)).keepAll h5)
  clear h5 HA HR HB1
  obtain ⟨⟨kn, no, en, pr, on⟩, HJ⟩ : ∃ J, Hid (judge (L t) (N : Int) = J) := ⟨_, rfl⟩
  rw [HJ.out, Verd.V]
  have HA3 := Lib.hid (HA2.out.alloc (.cells #[.bool kn, .bool no, .bool en, .bool pr, .bool on] 41))
  have HR3 := Lib.hid (HR2.out.alloc (.cells #[.bool kn, .bool no, .bool en, .bool pr, .bool on] 41))
  have HV3 := Lib.hid (At.new w2 #[.bool kn, .bool no, .bool en, .bool pr, .bool on] 41)
  have HB3 := Lib.hid (HB2.out.alloc HB2.out.size (.cells #[.bool kn, .bool no, .bool en, .bool pr, .bool on] 41))
  obtain ⟨a0, a1, a2, a3⟩ := HA2.out.four
  have al := HA2.out.1
  go_wp2_with fail
  refine (holds_any (N : Int) _ _ _ _ pat.terms _ _ HR3.out HT.out (by omega) (by omega) (by omega)).mono ?_
  rintro e w4 ⟨rfl, h5⟩
  have HA4 := Lib.hid (HA3.out.below h5)
  have HV4 := Lib.hid (HV3.out.below h5)
  have HB4 := Lib.hid (HB3.out.trans (h5.mono HB3.out.size))
  clear h5 HA2 HR2 HB2 HA3 HR3 HV3 HB3 a0 a1 a2 a3 al
  obtain ⟨g, HG⟩ : ∃ g, Hid (holdsTo (N : Int) pat.all pat.terms = g) := ⟨_, rfl⟩
  rw [HG.out]
  go_wp2_with fail
  refine (works_any _).mono ?_
  rintro e w5 ⟨rfl, h5⟩
  have HA5 := Lib.hid (HA4.out.below h5)
  have HV5 := Lib.hid (HV4.out.below h5)
  have HB5 := Lib.hid (HB4.out.trans (h5.mono HB4.out.size))
  clear h5 HA4 HV4 HB4
  cases ok with
  | false =>
    go_wp2
    go_ret
    exact ⟨rfl, HB5.out⟩
  | true =>
    have hj := judge_read (HO.out rfl) N hN
    rw [HJ.out, HG.out] at hj
    simp only [Verd.mk.injEq] at hj
    obtain ⟨rfl, rfl, rfl, rfl, rfl⟩ := hj
    obtain ⟨a0, a1, _, _⟩ := HA5.out.four
    obtain ⟨v0, v1, v2, v3, v4⟩ := HV5.out.five
    clear HA5 HV5
    go_wp2
    go_ret
    exact ⟨rfl, HB5.out⟩
end Go.Proofs.Ytelmpgonfcgjnaa
