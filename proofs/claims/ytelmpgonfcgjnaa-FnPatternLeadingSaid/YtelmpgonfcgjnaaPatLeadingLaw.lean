/-
  The walk of the law FnPatternLeading. For every input.
-/
import Derived.Test.YtelmpgonfcgjnaaPatWords
import Derived.Test.YtelmpgonfcgjnaaPatMore
set_option linter.unusedVariables false
namespace Go.Proofs.Ytelmpgonfcgjnaa
open Go.RowKit Go.PlainAid

theorem eqV (x : Verd) : Verd.V x = Verd.V x := rfl
set_option maxRecDepth 100000 in
set_option maxHeartbeats 4000000 in
theorem walkFnPatternLeading (w : World) (b : ByteArray) (wb : b.size ≤ maxLen) (r : ByteArray) (wr : r.size ≤ maxLen) (id : Int) (wi : (Lit.int .u64 id).wf = true) :
    Calls Try.prog 8 #[.string b, .string r, .int .u64 id] w fun e w' => e = .returned (.bool true) ∧ Below w.heap.size w w' := by
  unfold maxLen at wb wr
  obtain ⟨N, rfl, hN⟩ := id_nat wi
  clear wi
  by_cases g0 : 2147483647 < b.size
  · go_enter Try.func8, Try.ntmps8
    go_wp2
    go_ret
    exact ⟨rfl, Below.refl _ _⟩
  by_cases g1 : 2147483647 < r.size
  · go_enter Try.func8, Try.ntmps8
    go_wp2
    go_ret
    exact ⟨rfl, Below.refl _ _⟩
  by_cases gs : 1000000 < b.size + r.size
  · go_enter Try.func8, Try.ntmps8
    go_wp2_with (go_at_call 15; refine (tooLong_yes2 _ _ _ (by omega) (by omega) (by omega) (by omega) (by omega)).mono ?_; rintro e w' ⟨rfl, rfl⟩)
    go_ret
    exact ⟨rfl, (Below.refl _ _).alloc (Nat.le_refl _) _⟩
  have HB0 := Lib.hid ((Below.refl w.heap.size w).alloc (Nat.le_refl _) (.cells #[.int .i64 (b.size : Int), .int .i64 (r.size : Int)] 3))
  go_enter Try.func8, Try.ntmps8
  go_wp2_with (go_at_call 15; refine (tooLong_no2 _ _ _ (by omega) (by omega) (by omega)).mono ?_; rintro e w' ⟨rfl, rfl⟩)
  have hsz : (b ++ r).size = b.size + r.size := ByteArray.size_append
  refine (readPattern_any _ _ ?_).mono ?_
  · first | omega | (rw [ByteArray.size_append]; omega) | (rw [ByteArray.size_append, ByteArray.size_append]; omega) | (rw [ByteArray.size_append, ByteArray.size_append]; omega) | (rw [ByteArray.size_append, ByteArray.size_append, ByteArray.size_append]; omega)
  rintro e wr0 ⟨⟨dis0, vis0, all0, ts0⟩, sv0, ok0, he, h1, h2, h3, h4, h5⟩
  dsimp only at he h1 h2 h3 h4
  subst he
  have HO0 := Lib.hid h1
  obtain ⟨ao0, cap0, rfl⟩ := h2.shape
  have HB1' := Lib.hid (HB0.out.trans (h5.mono HB0.out.size))
  have HB1 := Lib.hid (HB1'.out.alloc HB1'.out.size (.cells #[.bool dis0, .bool vis0, .bool all0, .slice ao0 ts0.length cap0] 25))
  clear h1 h2 h3 h4 h5 HB0 HB1'
  go_wp2_with fail
  refine (readPattern_any _ _ ?_).mono ?_
  · first | omega | (rw [ByteArray.size_append]; omega) | (rw [ByteArray.size_append, ByteArray.size_append]; omega) | (rw [ByteArray.size_append, show (⟨#[45]⟩ : ByteArray).size = 1 from rfl]; omega) | (rw [ByteArray.size_append, ByteArray.size_append, show (⟨#[45]⟩ : ByteArray).size = 1 from rfl]; omega)
  rintro e wr1 ⟨⟨dis1, vis1, all1, ts1⟩, sv1, ok1, he, h1, h2, h3, h4, h5⟩
  dsimp only at he h1 h2 h3 h4
  subst he
  have HO1 := Lib.hid h1
  obtain ⟨ao1, cap1, rfl⟩ := h2.shape
  have HB2' := Lib.hid (HB1.out.trans (h5.mono HB1.out.size))
  have HB2 := Lib.hid (HB2'.out.alloc HB2'.out.size (.cells #[.bool dis1, .bool vis1, .bool all1, .slice ao1 ts1.length cap1] 25))
  clear h1 h2 h3 h4 h5 HB1 HB2'
  go_wp2_with fail
  refine (isBits_any b (by omega) _).mono ?_
  rintro e w' ⟨bb, rfl, rfl, hbb⟩
  cases bb with
  | false =>
    clear hbb
    go_wp2_with fail
    refine (works_any _).mono ?_
    rintro e w3 ⟨rfl, h5⟩
    have HB3 := Lib.hid (HB2.out.trans (h5.mono HB2.out.size))
    clear h5 HB2
    go_wp2
    go_ret
    exact ⟨rfl, HB3.out⟩
  | true =>
  have HI := Lib.hid (hbb rfl)
  clear hbb
  cases ok0 with
  | false =>
    go_wp2_with fail
    refine (works_any _).mono ?_
    rintro e w3 ⟨rfl, h5⟩
    have HB3 := Lib.hid (HB2.out.trans (h5.mono HB2.out.size))
    clear h5 HB2
    go_wp2
    go_ret
    exact ⟨rfl, HB3.out⟩
  | true =>
  cases ok1 with
  | false =>
    go_wp2_with fail
    refine (works_any _).mono ?_
    rintro e w3 ⟨rfl, h5⟩
    have HB3 := Lib.hid (HB2.out.trans (h5.mono HB2.out.size))
    clear h5 HB2
    go_wp2
    go_ret
    exact ⟨rfl, HB3.out⟩
  | true =>
  have e1 : L (b ++ r) = L b ++ L r := L_append _ _
  have e2 : L (⟨#[43]⟩ ++ b ++ r) = 43 :: (L b ++ L r) := by rw [L_append, L_append]; rfl
  have e3 : L (⟨#[45]⟩ ++ b ++ r) = 45 :: (L b ++ L r) := by rw [L_append, L_append]; rfl
  have e4 : L (⟨#[121, 45]⟩ ++ b ++ r) = 121 :: 45 :: (L b ++ L r) := by rw [L_append, L_append]; rfl
  have h1 := HO0.out rfl
  have h2 := HO1.out rfl
  rw [e1] at h1
  rw [e3] at h2
  have j1 := lead_plus HI.out h1 N hN
  have j2 := lead_minus h2 N hN
  rw [← e2, ← e1] at j1
  rw [← e4, ← e3] at j2
  obtain ⟨⟨k0, k1, k2, k3, k4⟩, HV1⟩ : ∃ J, Hid (judge (L (b ++ r)) (N : Int) = J) := ⟨_, rfl⟩
  obtain ⟨⟨l0, l1, l2, l3, l4⟩, HV2⟩ : ∃ J, Hid (judge (L (⟨#[45]⟩ ++ b ++ r)) (N : Int) = J) := ⟨_, rfl⟩
  rw [HV1.out] at j1
  rw [HV2.out] at j2
  have J1 := Lib.hid j1
  have J2 := Lib.hid j2
  clear j1 j2 h1 h2 e1 e2 e3 e4 hsz
  go_wp2_with fail
  refine (works_any _).mono ?_
  rintro e w3 ⟨rfl, h5⟩
  have HB3 := Lib.hid (HB2.out.trans (h5.mono HB2.out.size))
  clear h5 HB2
  go_wp2_with fail
  refine (judge_any _ (N : Int) _ ?_).mono ?_
  · first | omega | (rw [ByteArray.size_append]; omega) | (rw [ByteArray.size_append, ByteArray.size_append]; omega) | (rw [ByteArray.size_append, szl]; omega) | (rw [ByteArray.size_append, ByteArray.size_append, szl]; omega)
  rintro e w4 ⟨rfl, h5⟩
  have HB4 := Lib.hid (HB3.out.trans (h5.mono HB3.out.size))
  clear h5 HB3
  rw [HV1.out, Verd.V]
  go_wp2_with fail
  refine (judge_any _ (N : Int) _ ?_).mono ?_
  · first | omega | (rw [ByteArray.size_append]; omega) | (rw [ByteArray.size_append, ByteArray.size_append]; omega) | (rw [ByteArray.size_append, show (⟨#[43]⟩ : ByteArray).size = 1 from rfl]; omega) | (rw [ByteArray.size_append, ByteArray.size_append, show (⟨#[43]⟩ : ByteArray).size = 1 from rfl]; omega)
  rintro e w5 ⟨rfl, h5⟩
  have HB5 := Lib.hid (HB4.out.trans (h5.mono HB4.out.size))
  clear h5 HB4
  rw [J1.out, Verd.V]
  go_wp2_with fail
  refine (judge_any _ (N : Int) _ ?_).mono ?_
  · first | omega | (rw [ByteArray.size_append]; omega) | (rw [ByteArray.size_append, ByteArray.size_append]; omega) | (rw [ByteArray.size_append, show (⟨#[45]⟩ : ByteArray).size = 1 from rfl]; omega) | (rw [ByteArray.size_append, ByteArray.size_append, show (⟨#[45]⟩ : ByteArray).size = 1 from rfl]; omega)
  rintro e w6 ⟨rfl, h5⟩
  have HB6 := Lib.hid (HB5.out.trans (h5.mono HB5.out.size))
  clear h5 HB5
  rw [HV2.out, Verd.V]
  go_wp2_with fail
  refine (judge_any _ (N : Int) _ ?_).mono ?_
  · first | omega | (rw [ByteArray.size_append]; omega) | (rw [ByteArray.size_append, ByteArray.size_append]; omega) | (rw [ByteArray.size_append, show (⟨#[121, 45]⟩ : ByteArray).size = 2 from rfl]; omega) | (rw [ByteArray.size_append, ByteArray.size_append, show (⟨#[121, 45]⟩ : ByteArray).size = 2 from rfl]; omega)
  rintro e w7 ⟨rfl, h5⟩
  have HB7 := Lib.hid (HB6.out.trans (h5.mono HB6.out.size))
  clear h5 HB6
  rw [J2.out, Verd.V]
  go_wp2
  go_ret
  exact ⟨rfl, HB7.out⟩
end Go.Proofs.Ytelmpgonfcgjnaa
