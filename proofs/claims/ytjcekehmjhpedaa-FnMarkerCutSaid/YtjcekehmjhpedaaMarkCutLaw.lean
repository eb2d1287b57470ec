/-
  The walk of the law FnMarkerCut. For every input.
-/
import Derived.Test.YtjcekehmjhpedaaCutImpl
namespace Go.Proofs.Ytjcekehmjhpedaa
open Go.RowKit Go.PlainAid

theorem walkFnMarkerCut (w : World) (b : ByteArray) (wb : b.size ≤ maxLen) (a : Int) (wa : (Lit.int .u64 a).wf = true) (c : ByteArray) (wc : c.size ≤ maxLen) :
    Calls Try.prog 8 #[.string b, .int .u64 a, .string c] w fun e w' => e = .returned (.bool true) ∧ Below w.heap.size w w' := by
  obtain ⟨n0, n1⟩ := bounds_u64 wa
  obtain ⟨n, rfl⟩ := Int.eq_ofNat_of_zero_le n0
  have n2 : n < 18446744073709551616 := by omega
  have Hn := Lib.hid n2
  clear n2 n1 wa
  have hmsn := size_marker n
  unfold maxLen at wb
  unfold maxLen at wc
  by_cases gb : 2147483647 < b.size
  · go_enter Try.func8, Try.ntmps8
    go_wp2
    go_ret
    exact ⟨rfl, Below.refl _ _⟩
  by_cases gc : 2147483647 < c.size
  · go_enter Try.func8, Try.ntmps8
    go_wp2
    go_ret
    exact ⟨rfl, Below.refl _ _⟩
  by_cases gt : 1000000 < b.size + c.size
  · go_enter Try.func8, Try.ntmps8
    go_wp2_with (go_at_call 13; refine (tooLong_yes2 _ _ _ (by omega) (by omega) (by omega) (by omega) (by omega)).mono ?_; rintro e w' ⟨rfl, rfl⟩)
    go_ret
    exact ⟨rfl, (Below.refl _ _).alloc (Nat.le_refl _) _⟩
  have HB0 := Lib.hid ((Below.refl w.heap.size w).alloc (Nat.le_refl _) (.cells #[.int .i64 (b.size : Int), .int .i64 (c.size : Int)] 3))
  go_enter Try.func8, Try.ntmps8
  go_wp2_with (go_at_call 13; refine (tooLong_no2 _ _ _ (by omega) (by omega) (by omega)).mono ?_; rintro e w' ⟨rfl, rfl⟩)
  refine (implMarker_any n Hn.out _).mono ?_
  rintro e w1 ⟨rfl, hb1⟩
  have HB1 := Lib.hid (HB0.out.trans (hb1.mono (by simp)))
  clear hb1
  cases hsb : smoothB b with
  | false =>
    have HSB := Lib.hid hsb
    clear hsb
    go_wp2_with fail
    refine (implCut_any _ (by rw [ByteArray.size_append, ByteArray.size_append, size_marker]; omega) _).mono ?_
    rintro e w2 ⟨hc2, hb2⟩
    obtain ⟨s2, v2, b2, rfl⟩ := hc2.shape
    have HB2 := Lib.hid (HB1.out.trans (hb2.mono HB1.out.size))
    clear hc2 hb2
    go_wp2_with fail
    refine (smooth_any b _ (by omega)).mono ?_
    rw [HSB.out]
    rintro e w3 ⟨rfl, rfl⟩
    go_wp2_with fail
    refine (implMarker_any 5 (by omega) _).mono ?_
    rintro e w8 ⟨rfl, hb8⟩
    have HB8 := Lib.hid (HB2.out.trans (hb8.mono HB2.out.size))
    clear hb8
    go_wp2_with fail
    refine (cut_five _).mono ?_
    rintro e w9 ⟨⟨s9, rfl⟩, hb9⟩
    have HB9 := Lib.hid (HB8.out.trans (hb9.mono HB8.out.size))
    clear hb9
    go_wp2
    go_ret
    exact ⟨rfl, HB9.out⟩
  | true =>
    have HSB := Lib.hid hsb
    clear hsb
    cases hsc : smoothB c with
    | false =>
      have HSC := Lib.hid hsc
      clear hsc
      go_wp2_with fail
      refine (implCut_any _ (by rw [ByteArray.size_append, ByteArray.size_append, size_marker]; omega) _).mono ?_
      rintro e w2 ⟨hc2, hb2⟩
      obtain ⟨s2, v2, b2, rfl⟩ := hc2.shape
      have HB2 := Lib.hid (HB1.out.trans (hb2.mono HB1.out.size))
      clear hc2 hb2
      go_wp2_with fail
      refine (smooth_any b _ (by omega)).mono ?_
      rw [HSB.out]
      rintro e w3 ⟨rfl, rfl⟩
      go_wp2_with fail
      refine (smooth_any c _ (by omega)).mono ?_
      rw [HSC.out]
      rintro e w3 ⟨rfl, rfl⟩
      go_wp2_with fail
      refine (implMarker_any 5 (by omega) _).mono ?_
      rintro e w8 ⟨rfl, hb8⟩
      have HB8 := Lib.hid (HB2.out.trans (hb8.mono HB2.out.size))
      clear hb8
      go_wp2_with fail
      refine (cut_five _).mono ?_
      rintro e w9 ⟨⟨s9, rfl⟩, hb9⟩
      have HB9 := Lib.hid (HB8.out.trans (hb9.mono HB8.out.size))
      clear hb9
      go_wp2
      go_ret
      exact ⟨rfl, HB9.out⟩
    | true =>
      have HSC := Lib.hid hsc
      clear hsc
      go_wp2_with fail
      refine (implCut_marker b c n Hn.out (smooth_facts HSB.out).1 (by omega) _).mono ?_
      rw [cutS_marker b c n (smooth_facts HSB.out).2.2 (smooth_facts HSC.out).2.1]
      unfold cutYes
      rintro e w2 ⟨rfl, hb2⟩
      have HB2 := Lib.hid (HB1.out.trans (hb2.mono HB1.out.size))
      clear hb2
      go_wp2_with fail
      refine (smooth_any b _ (by omega)).mono ?_
      rw [HSB.out]
      rintro e w3 ⟨rfl, rfl⟩
      go_wp2_with fail
      refine (smooth_any c _ (by omega)).mono ?_
      rw [HSC.out]
      rintro e w3 ⟨rfl, rfl⟩
      go_wp2
      go_ret
      exact ⟨rfl, HB2.out⟩
end Go.Proofs.Ytjcekehmjhpedaa
