/-
  The walk of the law FnMarkerBlank. For every input.
-/
import Derived.Test.YtjcekehmjhpedaaCutImpl
namespace Go.Proofs.Ytjcekehmjhpedaa
open Go.RowKit Go.PlainAid

theorem implCut_blank (b c : ByteArray) (n : Nat) (hn : n < 18446744073709551616) (hb : hasI b 91 = false) (hs : b.size + c.size ≤ 4294000) (w : World) :
    Calls Try.prog 16 #[.string (b ++ ⟨#[32]⟩ ++ marker n ++ ⟨#[32]⟩ ++ c)] w fun e w' => e = .returned (.tuple #[.string (b ++ ⟨#[32]⟩ ++ c), .int .u64 (n : Int), .bool true]) ∧ Below w.heap.size w w' := by
  have hl : b ++ ⟨#[32]⟩ ++ marker n ++ ⟨#[32]⟩ ++ c = b ++ ⟨#[32]⟩ ++ marker n ++ (⟨#[32]⟩ ++ c) := ByteArray.append_assoc
  have h1 : (b ++ ⟨#[32]⟩ : ByteArray).size = b.size + 1 := by rw [ByteArray.size_append]; rfl
  have h2 : (⟨#[32]⟩ ++ c : ByteArray).size = c.size + 1 := by rw [ByteArray.size_append]; show 1 + c.size = _; omega
  have h3 : hasI (b ++ ⟨#[32]⟩) 91 = false := by
    cases hx : hasI (b ++ ⟨#[32]⟩) 91 with
    | false => rfl
    | true =>
      have h1 := (hasI_iff _ 91).1 hx
      rw [L_append, List.mem_append] at h1
      rcases h1 with h1 | h1
      · have := (hasI_iff b 91).2 h1; rw [show ((91 : UInt8).toNat : Int) = 91 from rfl] at this; rw [hb] at this; cases this
      · simp [L] at h1
  have h4 := implCut_marker (b ++ ⟨#[32]⟩) (⟨#[32]⟩ ++ c) n hn h3 (by omega) w
  rw [h1, cutS_marker_blank b (⟨#[32]⟩ ++ c) n, ← ByteArray.append_assoc (a := b)] at h4
  rw [hl]
  exact h4
theorem walkFnMarkerBlank (w : World) (b : ByteArray) (wb : b.size ≤ maxLen) (a : Int) (wa : (Lit.int .u64 a).wf = true) (c : ByteArray) (wc : c.size ≤ maxLen) :
    Calls Try.prog 7 #[.string b, .int .u64 a, .string c] w fun e w' => e = .returned (.bool true) ∧ Below w.heap.size w w' := by
  obtain ⟨n0, n1⟩ := bounds_u64 wa
  obtain ⟨n, rfl⟩ := Int.eq_ofNat_of_zero_le n0
  have n2 : n < 18446744073709551616 := by omega
  have Hn := Lib.hid n2
  clear n2 n1 wa
  have hmsn := size_marker n
  unfold maxLen at wb
  unfold maxLen at wc
  by_cases gb : 2147483647 < b.size
  · go_enter Try.func7, Try.ntmps7
    go_wp2
    go_ret
    exact ⟨rfl, Below.refl _ _⟩
  by_cases gc : 2147483647 < c.size
  · go_enter Try.func7, Try.ntmps7
    go_wp2
    go_ret
    exact ⟨rfl, Below.refl _ _⟩
  by_cases gt : 1000000 < b.size + c.size
  · go_enter Try.func7, Try.ntmps7
    go_wp2_with (go_at_call 13; refine (tooLong_yes2 _ _ _ (by omega) (by omega) (by omega) (by omega) (by omega)).mono ?_; rintro e w' ⟨rfl, rfl⟩)
    go_ret
    exact ⟨rfl, (Below.refl _ _).alloc (Nat.le_refl _) _⟩
  have HB0 := Lib.hid ((Below.refl w.heap.size w).alloc (Nat.le_refl _) (.cells #[.int .i64 (b.size : Int), .int .i64 (c.size : Int)] 3))
  have hl1 : (⟨#[32]⟩ : ByteArray).size = 1 := rfl
  have HBM : Hid (b.size ≤ maxLen) := by show _ ≤ _; unfold maxLen; omega
  go_enter Try.func7, Try.ntmps7
  go_wp2_with (go_at_call 13; refine (tooLong_no2 _ _ _ (by omega) (by omega) (by omega)).mono ?_; rintro e w' ⟨rfl, rfl⟩)
  refine (implMarker_any n Hn.out _).mono ?_
  rintro e w1 ⟨rfl, hb1⟩
  have HB1 := Lib.hid (HB0.out.trans (hb1.mono (by simp)))
  clear hb1
  cases hhb : hasI b 91 with
  | true =>
    have HHB := Lib.hid hhb
    clear hhb
    go_wp2_with fail
    refine (implCut_any _ (by rw [ByteArray.size_append, ByteArray.size_append, ByteArray.size_append, ByteArray.size_append, size_marker]; omega) _).mono ?_
    rintro e w2 ⟨hc2, hb2⟩
    obtain ⟨s2, v2, b2, rfl⟩ := hc2.shape
    have HB2 := Lib.hid (HB1.out.trans (hb2.mono HB1.out.size))
    clear hc2 hb2
    go_wp2_with fail
    refine (has_any b _ _ HBM.out).mono ?_
    rw [HHB.out]
    rintro e w3 ⟨rfl, rfl⟩
    go_wp2_with fail
    refine (implMarker_any 5 (by omega) _).mono ?_
    rintro e w8 ⟨rfl, hb8⟩
    have HB8 := Lib.hid (HB2.out.trans (hb8.mono HB2.out.size))
    clear hb8
    go_wp2_with fail
    refine (cut_five _).mono ?_
    rintro e w9 ⟨⟨s9, rfl⟩, hb9⟩
    have HB9 := Lib.hid (HB8.out.trans (hb9.mono HB8.out.size))
    clear hb9
    go_wp2
    go_ret
    exact ⟨rfl, HB9.out⟩
  | false =>
    have HHB := Lib.hid hhb
    clear hhb
    go_wp2_with fail
    refine (implCut_blank b c n Hn.out HHB.out (by omega) _).mono ?_
    rintro e w2 ⟨rfl, hb2⟩
    have HB2 := Lib.hid (HB1.out.trans (hb2.mono HB1.out.size))
    clear hb2
    go_wp2_with fail
    refine (has_any b _ _ HBM.out).mono ?_
    rw [HHB.out]
    rintro e w3 ⟨rfl, rfl⟩
    go_wp2
    go_ret
    exact ⟨rfl, HB2.out⟩
end Go.Proofs.Ytjcekehmjhpedaa
