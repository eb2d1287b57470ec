/-
  The walk of the law FnFileLine. For every input.
-/
import Derived.Test.YtnjdckhaecdldaaFileLine
import Derived.Test.YtnjdckhaecdldaaCutImplP
import Derived.Test.YtnjdckhaecdldaaPatWords
import Derived.Test.YtnjdckhaecdldaaHas
set_option linter.unusedVariables false
namespace Go.Proofs.Ytnjdckhaecdldaa
open Go.RowKit Go.PlainAid

theorem hex_no10 : ∀ d : Fin 16, HEX.getD d.val 0 ≠ 10 := by decide
theorem marker_no10 (N : Nat) : (10 : UInt8) ∉ L (marker N) := by
  rw [L_marker]
  intro h
  rcases List.mem_append.1 h with h | h
  · rcases List.mem_append.1 h with h | h
    · exact absurd h (by decide)
    · obtain ⟨i, _, hi⟩ := List.mem_map.1 h
      exact hex_no10 ⟨dg N i, dg_lt N i⟩ hi
  · exact absurd h (by decide)
theorem dec_no10 : ∀ (u : Nat), ∀ c ∈ Lib.decDigits u, c ≠ 10 := by
  intro u
  induction u using Nat.strongRecOn with
  | _ u ih =>
    intro c hc
    rw [Lib.decDigits] at hc
    split at hc
    · rename_i h
      have hc := List.mem_singleton.1 hc
      rw [hc]
      intro e
      have := congrArg UInt8.toNat e
      rw [UInt8.toNat_ofNat'] at this
      have e10 : (10 : UInt8).toNat = 10 := rfl
      omega
    · rename_i h
      rcases List.mem_append.1 hc with hc | hc
      · exact ih (u / 10) (by omega) c hc
      · have hc := List.mem_singleton.1 hc
        rw [hc]
        intro e
        have := congrArg UInt8.toNat e
        rw [UInt8.toNat_ofNat'] at this
        have e10 : (10 : UInt8).toNat = 10 := rfl
        omega
theorem line_no10 {f : ByteArray} (n : Int) (hf : (10 : UInt8) ∉ L f) : (10 : UInt8) ∉ L (lineB f n) := by
  unfold lineB
  rw [L_append, L_append, L_mkB]
  intro h
  rcases List.mem_append.1 h with h | h
  · exact hf h
  · rcases List.mem_append.1 h with h | h
    · exact absurd h (by decide)
    · unfold Lib.itoa at h
      split at h
      · rcases List.mem_cons.1 h with h | h
        · exact absurd h (by decide)
        · exact dec_no10 _ _ h rfl
      · exact dec_no10 _ _ h rfl
theorem hasI_no {s : ByteArray} (h : (10 : UInt8) ∉ L s) : hasI s 10 = false := by
  cases e : hasI s 10 with
  | false => rfl
  | true => exact absurd ((hasI_iff s 10).1 e) h
theorem hasI_not {s : ByteArray} (h : hasI s 10 = false) : (10 : UInt8) ∉ L s := fun hm => by
  have := (hasI_iff s 10).2 hm
  rw [show (((10 : UInt8)).toNat : Int) = 10 from rfl, h] at this
  cases this
theorem out_parts (on : Bool) (N : Nat) (f : ByteArray) (n : Int) (hf : f.size ≤ 1000000) (hn : hasI f 10 = false) (n0 : -9223372036854775808 ≤ n) (n1 : n ≤ 9223372036854775807) :
    ∃ P E, outT true on N f n = P ++ nl ∧ outT true on N f n = ByteArray.empty ++ marker N ++ E ∧ E.size ≤ 1000100 ∧ hasI P 10 = false ∧ P.size ≤ 1000100 ∧ 33 ≤ P.size ∧ (on = true → outT true on N f n = marker N ++ nl) := by
  have hms := size_marker N
  have hlb := size_lineB f n n0 n1
  cases on with
  | true => exact ⟨marker N, nl, rfl, by rw [ByteArray.empty_append]; rfl, by decide, hasI_no (marker_no10 N), by omega, by omega, fun _ => rfl⟩
  | false =>
    refine ⟨marker N ++ lineB f n, lineB f n ++ nl, rfl, ?_, ?_, ?_, ?_, ?_, fun h => by cases h⟩
    · rw [ByteArray.empty_append]
      refine L_inj ?_
      show L (lineT N f n) = _
      unfold lineT
      simp only [L_append, List.append_assoc]
    · rw [ByteArray.size_append]
      have : nl.size = 1 := rfl
      omega
    · refine hasI_no ?_
      rw [L_append]
      intro h
      rcases List.mem_append.1 h with h | h
      · exact marker_no10 N h
      · exact line_no10 n (hasI_not hn) h
    · rw [ByteArray.size_append]; omega
    · rw [ByteArray.size_append]; omega
set_option maxHeartbeats 8000000 in
set_option maxRecDepth 100000 in
theorem walkFnFileLine (w : World) (p : ByteArray) (wp : p.size ≤ maxLen) (f : ByteArray) (wf : f.size ≤ maxLen) (n : Int) (wn : (Lit.int .i64 n).wf = true) :
    Calls Try.prog 3 #[.string p, .string f, .int .i64 n] w fun e w' => e = .returned (.bool true) ∧ Below w.heap.size w w' := by
  obtain ⟨n0, n1⟩ := bounds_i64 wn
  obtain ⟨N, hH, hN⟩ := hashI_nat f n
  have HN := Lib.hid (show hashI f n = (N : Int) ∧ N < 18446744073709551616 ∧ -9223372036854775808 ≤ n ∧ n ≤ 9223372036854775807 from ⟨hH, hN, n0, n1⟩)
  have HWF := Lib.hid wf
  clear wn hH hN n0 n1
  unfold maxLen at wp
  unfold maxLen at wf
  by_cases gp : 2147483647 < p.size
  · go_enter Try.func3, Try.ntmps3
    go_wp2
    go_ret
    exact ⟨rfl, Below.refl _ _⟩
  by_cases gf : 2147483647 < f.size
  · go_enter Try.func3, Try.ntmps3
    go_wp2
    go_ret
    exact ⟨rfl, Below.refl _ _⟩
  by_cases gt : 1000000 < p.size + f.size
  · go_enter Try.func3, Try.ntmps3
    go_wp2_with (go_at_call 8; refine (tooLong_yes2 _ _ _ (by omega) (by omega) (by omega) (by omega) (by omega)).mono ?_; rintro e w' ⟨rfl, rfl⟩)
    go_ret
    exact ⟨rfl, (Below.refl _ _).alloc (Nat.le_refl _) _⟩
  have HB0 := Lib.hid ((Below.refl w.heap.size w).alloc (Nat.le_refl _) (.cells #[.int .i64 (p.size : Int), .int .i64 (f.size : Int)] 3))
  go_enter Try.func3, Try.ntmps3
  go_wp2_with (go_at_call 8; refine (tooLong_no2 _ _ _ (by omega) (by omega) (by omega)).mono ?_; rintro e w' ⟨rfl, rfl⟩)
  refine (readPattern_any p _ (by omega)).mono ?_
  rintro e w1 ⟨pat, sv, ok, rfl, h1, h2, h3, h4, h5⟩
  have HB1 := Lib.hid (HB0.out.trans (h5.mono HB0.out.size))
  have HO := Lib.hid h1
  obtain ⟨ao, cap, rfl⟩ := h2.shape
  clear h1 h2 h3 h4 h5 HB0
  have HB2 := Lib.hid (HB1.out.alloc HB1.out.size (.cells #[.bool pat.disable, .bool pat.visible, .bool pat.all, .slice ao pat.terms.length cap] 25))
  cases ok with
  | false =>
    go_wp2_with fail
    refine (works_any _).mono ?_
    rintro e w3 ⟨rfl, h5⟩
    have HB3 := Lib.hid (HB2.out.trans (h5.mono HB2.out.size))
    clear h5
    go_wp2
    go_ret
    exact ⟨rfl, HB3.out⟩
  | true =>
    cases h10 : hasI f 10 with
    | true =>
      have H10 := Lib.hid h10
      clear h10
      go_wp2_with fail
      refine (has_any f 10 _ HWF.out).mono ?_
      rw [H10.out]
      rintro e w3 ⟨rfl, rfl⟩
      go_wp2_with fail
      refine (works_any _).mono ?_
      rintro e w3 ⟨rfl, h5⟩
      have HB3 := Lib.hid (HB2.out.trans (h5.mono HB2.out.size))
      clear h5
      go_wp2
      go_ret
      exact ⟨rfl, HB3.out⟩
    | false =>
      have H10 := Lib.hid h10
      clear h10
      go_wp2_with fail
      refine (has_any f 10 _ HWF.out).mono ?_
      rw [H10.out]
      rintro e w3 ⟨rfl, rfl⟩
      go_wp2_with fail
      refine (has_any f 91 _ HWF.out).mono ?_
      cases h91 : hasI f 91 with
      | true =>
        rintro e w3 ⟨rfl, rfl⟩
        go_wp2_with fail
        refine (works_any _).mono ?_
        rintro e w3 ⟨rfl, h5⟩
        have HB3 := Lib.hid (HB2.out.trans (h5.mono HB2.out.size))
        clear h5
        go_wp2
        go_ret
        exact ⟨rfl, HB3.out⟩
      | false =>
        rintro e w3 ⟨rfl, rfl⟩
        clear h91
        go_wp2_with fail
        refine (implFileLine_any p f n N HN.out.1 HN.out.2.1 _ (by omega) (by omega) HN.out.2.2.1 HN.out.2.2.2).mono ?_
        rintro e w3 ⟨rfl, h5⟩
        have HB3 := Lib.hid (HB2.out.trans (h5.mono HB2.out.size))
        clear h5 HB1 HB2
        have hj := judge_read (HO.out (by first | rfl | trivial)) N HN.out.2.1
        have hkn : (judge (L p) (N : Int)).known = true := by rw [hj]
        clear hj
        obtain ⟨⟨kn, no, en, pr, on⟩, HJ⟩ : ∃ J, Hid (judge (L p) (N : Int) = J) := ⟨_, rfl⟩
        rw [HJ.out] at hkn
        obtain rfl : kn = true := hkn
        rw [HJ.out]
        dsimp only
        obtain ⟨P, E, e1, e2, e3, e4, e5, e6, e7⟩ := out_parts on N f n (by omega) H10.out HN.out.2.2.1 HN.out.2.2.2
        cases pr with
        | false =>
          rw [show outT false on N f n = ⟨#[]⟩ from rfl]
          clear e1 e2 e3 e4 e5 e6 e7
          go_wp2_with fail
          refine (implHashLine_any f n _ HWF.out).mono ?_
          rintro e w4 ⟨rfl, h5⟩
          have HB4 := Lib.hid (HB3.out.trans (h5.mono HB3.out.size))
          clear h5
          rw [show fnvN (IntKind.u64.wrap n) (fnvS f 14695981039346656037 f.size) 8 = (N : Int) from HN.out.1]
          go_wp2_with fail
          refine (judge_any p (N : Int) _ (by omega)).mono ?_
          rintro e w5 ⟨rfl, h5⟩
          have HB5 := Lib.hid (HB4.out.trans (h5.mono HB4.out.size))
          clear h5
          rw [HJ.out, Verd.V]
          have HB6 := Lib.hid (HB5.out.alloc HB5.out.size (.cells #[.bool true, .bool no, .bool en, .bool false, .bool on] 35))
          have hene : (en != en) = false := by simp
          go_wp2_with fail
          refine (works_any _).mono ?_
          rintro e w7 ⟨rfl, h5⟩
          have HB7 := Lib.hid (HB6.out.trans (h5.mono HB6.out.size))
          clear h5
          go_wp2
          go_ret
          exact ⟨rfl, HB7.out⟩
        | true =>
          have hxs : (outT true on N f n).size = P.size + 1 := by rw [e1, ByteArray.size_append]; rfl
          have hx9 : bt (outT true on N f n) P.size = 10 := by
            rw [e1]
            exact (bt_right P nl 0).trans rfl
          have hxp : (outT true on N f n).extract 0 P.size = P := by rw [e1]; exact head_extract P nl
          have HXE := Lib.hid e2
          have HX10 := Lib.hid e4
          have HXP := Lib.hid hxp
          have HX7 := Lib.hid e7
          have hcut := fun W => implCut_marker ByteArray.empty E N HN.out.2.1 rfl (by have : ByteArray.empty.size = 0 := rfl; omega) W
          rw [← HXE.out] at hcut
          have HCUT := Lib.hid hcut
          clear e1 e2 e4 e7 hxp hcut
          generalize outT true on N f n = X at *
          have hxe := isEmpty_no X (by omega)
          have hbx := get_bt X
          go_wp2_with fail
          refine (implHashLine_any f n _ HWF.out).mono ?_
          rintro e w4 ⟨rfl, h5⟩
          have HB4 := Lib.hid (HB3.out.trans (h5.mono HB3.out.size))
          clear h5
          rw [show fnvN (IntKind.u64.wrap n) (fnvS f 14695981039346656037 f.size) 8 = (N : Int) from HN.out.1]
          go_wp2_with fail
          refine (judge_any p (N : Int) _ (by omega)).mono ?_
          rintro e w5 ⟨rfl, h5⟩
          have HB5 := Lib.hid (HB4.out.trans (h5.mono HB4.out.size))
          clear h5
          rw [HJ.out, Verd.V]
          have HB6 := Lib.hid (HB5.out.alloc HB5.out.size (.cells #[.bool true, .bool no, .bool en, .bool true, .bool on] 35))
          have HA6 := Lib.hid (At.new w5 #[.bool true, .bool no, .bool en, .bool true, .bool on] 35)
          have hene : (en != en) = false := by simp
          go_wp2_with fail
          refine (HCUT.out _).mono ?_
          unfold cutYes
          generalize cutS X ByteArray.empty.size (ByteArray.empty.size + 33) = Y at *
          rintro e w7 ⟨rfl, h5⟩
          have HA7 := Lib.hid (HA6.out.below h5)
          have HB7 := Lib.hid (HB6.out.trans (h5.mono HB6.out.size))
          clear h5 HA6 HB6 HB5
          go_wp2_with fail
          refine (works_any _).mono ?_
          rintro e w8 ⟨rfl, h5⟩
          have HA8 := Lib.hid (HA7.out.below h5)
          have HB8 := Lib.hid (HB7.out.trans (h5.mono HB7.out.size))
          clear h5 HA7 HB7
          obtain ⟨v0, v1, v2, v3, v4⟩ := HA8.out.five
          have pl := HA8.out.1
          have hps : P.size ≤ 1000100 := e5
          have e98 : IntKind.i64.wrap ((X.size : Int) - 1) = (P.size : Int) := by rw [hxs]; show _ = _; simp [IntKind.wrap, IntKind.bits, IntKind.signed]; omega
          go_wp2_with fail
          rw [HXP.out]
          refine (has_any P 10 _ (by unfold maxLen; omega)).mono ?_
          rw [HX10.out]
          rintro e w9 ⟨rfl, rfl⟩
          cases on with
          | false =>
            go_wp2
            go_ret
            exact ⟨rfl, HB8.out⟩
          | true =>
            have hX : X = marker N ++ nl := HX7.out (by first | rfl | trivial)
            have HX := Lib.hid hX
            clear hX
            go_wp2_with fail
            refine (implMarker_any N HN.out.2.1 _).mono ?_
            rintro e w10 ⟨rfl, h5⟩
            have HB10 := Lib.hid (HB8.out.trans (h5.mono HB8.out.size))
            have hms := size_marker N
            clear h5
            go_wp2
            go_ret
            exact ⟨retT (by rw [HX.out]; unfold nl; simp), HB10.out⟩
end Go.Proofs.Ytnjdckhaecdldaa
