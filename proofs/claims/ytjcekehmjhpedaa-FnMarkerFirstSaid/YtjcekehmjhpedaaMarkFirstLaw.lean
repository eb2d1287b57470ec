/-
  The walk of the law FnMarkerFirst. For every input.
-/
import Derived.Test.YtjcekehmjhpedaaCutImpl
namespace Go.Proofs.Ytjcekehmjhpedaa
open Go.RowKit Go.PlainAid

set_option maxHeartbeats 4000000 in
theorem walkFnMarkerFirst (w : World) (b : ByteArray) (wb : b.size ≤ maxLen) (a : Int) (wa : (Lit.int .u64 a).wf = true) (c : ByteArray) (wc : c.size ≤ maxLen) (a2 : Int) (wa2 : (Lit.int .u64 a2).wf = true) (d : ByteArray) (wd : d.size ≤ maxLen) :
    Calls Try.prog 9 #[.string b, .int .u64 a, .string c, .int .u64 a2, .string d] w fun e w' => e = .returned (.bool true) ∧ Below w.heap.size w w' := by
  obtain ⟨n0, n1⟩ := bounds_u64 wa
  obtain ⟨n, rfl⟩ := Int.eq_ofNat_of_zero_le n0
  have n2 : n < 18446744073709551616 := by omega
  have Hn := Lib.hid n2
  clear n2 n1 wa
  have hmsn := size_marker n
  obtain ⟨m0, m1⟩ := bounds_u64 wa2
  obtain ⟨m, rfl⟩ := Int.eq_ofNat_of_zero_le m0
  have m2 : m < 18446744073709551616 := by omega
  have Hm := Lib.hid m2
  clear m2 m1 wa2
  have hmsm := size_marker m
  unfold maxLen at wb
  unfold maxLen at wc
  unfold maxLen at wd
  by_cases gb : 2147483647 < b.size
  · go_enter Try.func9, Try.ntmps9
    go_wp2
    go_ret
    exact ⟨rfl, Below.refl _ _⟩
  by_cases gc : 2147483647 < c.size
  · go_enter Try.func9, Try.ntmps9
    go_wp2
    go_ret
    exact ⟨rfl, Below.refl _ _⟩
  by_cases gd : 2147483647 < d.size
  · go_enter Try.func9, Try.ntmps9
    go_wp2
    go_ret
    exact ⟨rfl, Below.refl _ _⟩
  by_cases gt : 1000000 < b.size + c.size + d.size
  · go_enter Try.func9, Try.ntmps9
    go_wp2_with (go_at_call 13; refine (tooLong_yes3 _ _ _ _ (by omega) (by omega) (by omega) (by omega) (by omega) (by omega) (by omega)).mono ?_; rintro e w' ⟨rfl, rfl⟩)
    go_ret
    exact ⟨rfl, (Below.refl _ _).alloc (Nat.le_refl _) _⟩
  have HB0 := Lib.hid ((Below.refl w.heap.size w).alloc (Nat.le_refl _) (.cells #[.int .i64 (b.size : Int), .int .i64 (c.size : Int), .int .i64 (d.size : Int)] 3))
  have main : ∀ sb sc sd : Bool, smoothB b = sb → smoothB c = sc → smoothB d = sd → (sb && sc && sd) = false → Calls Try.prog 9 #[.string b, .int .u64 (n : Int), .string c, .int .u64 (m : Int), .string d] w fun e w' => e = .returned (.bool true) ∧ Below w.heap.size w w' := by
    intro sb sc sd h1 h2 h3 h4
    have H1 := Lib.hid h1
    have H2 := Lib.hid h2
    have H3 := Lib.hid h3
    clear h1 h2 h3
    cases sb with
    | false =>
      clear h4
      go_enter Try.func9, Try.ntmps9
      go_wp2_with (go_at_call 13; refine (tooLong_no3 _ _ _ _ (by omega) (by omega) (by omega) (by omega)).mono ?_; rintro e w' ⟨rfl, rfl⟩)
      refine (smooth_any b _ (by omega)).mono ?_
      rw [H1.out]
      rintro e w3 ⟨rfl, rfl⟩
      go_wp2_with fail
      refine (implMarker_any 5 (by omega) _).mono ?_
      rintro e w8 ⟨rfl, hb8⟩
      have HB8 := Lib.hid (HB0.out.trans (hb8.mono HB0.out.size))
      clear hb8
      go_wp2_with fail
      refine (cut_five _).mono ?_
      rintro e w9 ⟨⟨s9, rfl⟩, hb9⟩
      have HB9 := Lib.hid (HB8.out.trans (hb9.mono HB8.out.size))
      clear hb9
      go_wp2
      go_ret
      exact ⟨rfl, HB9.out⟩
    | true =>
      cases sc with
      | false =>
        clear h4
        go_enter Try.func9, Try.ntmps9
        go_wp2_with (go_at_call 13; refine (tooLong_no3 _ _ _ _ (by omega) (by omega) (by omega) (by omega)).mono ?_; rintro e w' ⟨rfl, rfl⟩)
        refine (smooth_any b _ (by omega)).mono ?_
        rw [H1.out]
        rintro e w3 ⟨rfl, rfl⟩
        go_wp2_with fail
        refine (smooth_any c _ (by omega)).mono ?_
        rw [H2.out]
        rintro e w3 ⟨rfl, rfl⟩
        go_wp2_with fail
        refine (implMarker_any 5 (by omega) _).mono ?_
        rintro e w8 ⟨rfl, hb8⟩
        have HB8 := Lib.hid (HB0.out.trans (hb8.mono HB0.out.size))
        clear hb8
        go_wp2_with fail
        refine (cut_five _).mono ?_
        rintro e w9 ⟨⟨s9, rfl⟩, hb9⟩
        have HB9 := Lib.hid (HB8.out.trans (hb9.mono HB8.out.size))
        clear hb9
        go_wp2
        go_ret
        exact ⟨rfl, HB9.out⟩
      | true =>
        cases sd with
        | true => cases h4
        | false =>
          clear h4
          go_enter Try.func9, Try.ntmps9
          go_wp2_with (go_at_call 13; refine (tooLong_no3 _ _ _ _ (by omega) (by omega) (by omega) (by omega)).mono ?_; rintro e w' ⟨rfl, rfl⟩)
          refine (smooth_any b _ (by omega)).mono ?_
          rw [H1.out]
          rintro e w3 ⟨rfl, rfl⟩
          go_wp2_with fail
          refine (smooth_any c _ (by omega)).mono ?_
          rw [H2.out]
          rintro e w3 ⟨rfl, rfl⟩
          go_wp2_with fail
          refine (smooth_any d _ (by omega)).mono ?_
          rw [H3.out]
          rintro e w3 ⟨rfl, rfl⟩
          go_wp2_with fail
          refine (implMarker_any 5 (by omega) _).mono ?_
          rintro e w8 ⟨rfl, hb8⟩
          have HB8 := Lib.hid (HB0.out.trans (hb8.mono HB0.out.size))
          clear hb8
          go_wp2_with fail
          refine (cut_five _).mono ?_
          rintro e w9 ⟨⟨s9, rfl⟩, hb9⟩
          have HB9 := Lib.hid (HB8.out.trans (hb9.mono HB8.out.size))
          clear hb9
          go_wp2
          go_ret
          exact ⟨rfl, HB9.out⟩
  by_cases hall : (smoothB b && smoothB c && smoothB d) = false
  · exact main _ _ _ rfl rfl rfl hall
  clear main
  have hall' : smoothB b = true ∧ smoothB c = true ∧ smoothB d = true := by
    simp only [Bool.not_eq_false, Bool.and_eq_true] at hall; exact ⟨hall.1.1, hall.1.2, hall.2⟩
  obtain ⟨h1, h2, h3⟩ := hall'
  have fb := smooth_facts h1
  have fc := smooth_facts h2
  have fd := smooth_facts h3
  have H1 := Lib.hid h1
  have H2 := Lib.hid h2
  have H3 := Lib.hid h3
  have HFB := Lib.hid fb
  have HFC := Lib.hid fc
  have HFD := Lib.hid fd
  clear h1 h2 h3 fb fc fd hall
  -- what stands behind the first marker
  have hE : ∀ k, bt (c ++ marker m ++ d) k = bt (c ++ (marker m ++ d)) k := fun k => by rw [ByteArray.append_assoc]
  have HF0 : Hid (0 < (c ++ marker m ++ d).size → bt (c ++ marker m ++ d) 0 ≠ 32) := fun _ => by
    rw [hE 0]
    by_cases hc : 0 < c.size
    · rw [bt_left _ _ _ hc]; exact HFC.out.2.1 hc
    · have e0 := bt_right c (marker m ++ d) 0
      rw [Nat.add_zero, show c.size = 0 by omega] at e0
      rw [e0, bt_left _ _ _ (by rw [hmsm]; omega), bt_marker m 0 (by omega)]
      show ((91 : Nat) : Int) ≠ 32
      omega
  have HBC : Hid (hasI (b ++ c) 91 = false) := by
    show _ = _
    cases hx : hasI (b ++ c) 91 with
    | false => rfl
    | true =>
      have h1 := (hasI_iff _ 91).1 hx
      rw [L_append, List.mem_append] at h1
      rcases h1 with h1 | h1
      · have h5 := (hasI_iff b 91).2 h1; rw [show ((91 : UInt8).toNat : Int) = 91 from rfl, HFB.out.1] at h5; cases h5
      · have h5 := (hasI_iff c 91).2 h1; rw [show ((91 : UInt8).toNat : Int) = 91 from rfl, HFC.out.1] at h5; cases h5
  have HLast : Hid (0 < (b ++ c).size → bt (b ++ c) ((b ++ c).size - 1) ≠ 32) := fun h0 => by
    rw [ByteArray.size_append] at h0 ⊢
    by_cases hc : 0 < c.size
    · rw [show b.size + c.size - 1 = b.size + (c.size - 1) by omega, bt_right]; exact HFC.out.2.2 hc
    · rw [show b.size + c.size - 1 = b.size - 1 by omega, bt_left _ _ _ (by omega)]; exact HFB.out.2.2 (by omega)
  have HEQ : Hid (b ++ marker n ++ c ++ marker m ++ d = b ++ marker n ++ (c ++ marker m ++ d)) := by
    show _ = _; rw [ByteArray.append_assoc (a := b ++ marker n), ByteArray.append_assoc (a := b ++ marker n)]
  have HEQ2 : Hid (b ++ (c ++ marker m ++ d) = b ++ c ++ marker m ++ d) := by
    show _ = _; rw [← ByteArray.append_assoc, ← ByteArray.append_assoc]
  clear hE
  go_enter Try.func9, Try.ntmps9
  go_wp2_with (go_at_call 13; refine (tooLong_no3 _ _ _ _ (by omega) (by omega) (by omega) (by omega)).mono ?_; rintro e w' ⟨rfl, rfl⟩)
  refine (smooth_any b _ (by omega)).mono ?_
  rw [H1.out]
  rintro e w3 ⟨rfl, rfl⟩
  go_wp2_with fail
  refine (smooth_any c _ (by omega)).mono ?_
  rw [H2.out]
  rintro e w3 ⟨rfl, rfl⟩
  go_wp2_with fail
  refine (smooth_any d _ (by omega)).mono ?_
  rw [H3.out]
  rintro e w3 ⟨rfl, rfl⟩
  go_wp2_with fail
  refine (implMarker_any n Hn.out _).mono ?_
  rintro e w1 ⟨rfl, hb1⟩
  have HB1 := Lib.hid (HB0.out.trans (hb1.mono (by simp)))
  clear hb1
  go_wp2_with fail
  refine (implMarker_any m Hm.out _).mono ?_
  rintro e w2 ⟨rfl, hb2⟩
  have HB2 := Lib.hid (HB1.out.trans (hb2.mono HB1.out.size))
  clear hb2
  go_wp2_with fail
  rw [HEQ.out]
  refine (implCut_marker b (c ++ marker m ++ d) n Hn.out HFB.out.1 (by rw [ByteArray.size_append, ByteArray.size_append, hmsm]; omega) _).mono ?_
  rw [cutS_marker b (c ++ marker m ++ d) n HFB.out.2.2 HF0.out, HEQ2.out]
  unfold cutYes
  rintro e w4 ⟨rfl, hb4⟩
  have HB4 := Lib.hid (HB2.out.trans (hb4.mono HB2.out.size))
  clear hb4
  go_wp2_with fail
  refine (implCut_marker (b ++ c) d m Hm.out HBC.out (by rw [ByteArray.size_append]; omega) _).mono ?_
  rw [cutS_marker (b ++ c) d m HLast.out HFD.out.2.1]
  unfold cutYes
  rintro e w5 ⟨rfl, hb5⟩
  have HB5 := Lib.hid (HB4.out.trans (hb5.mono HB4.out.size))
  clear hb5
  go_wp2_with fail
  refine (implMarker_any m Hm.out _).mono ?_
  rintro e w6 ⟨rfl, hb6⟩
  have HB6 := Lib.hid (HB5.out.trans (hb6.mono HB5.out.size))
  clear hb6
  go_wp2
  go_ret
  exact ⟨rfl, HB6.out⟩
end Go.Proofs.Ytjcekehmjhpedaa
