/-
  The walk of the law FnPatternParts. For every input.
-/
import Derived.Test.YtnjdckhaecdldaaPatWords
import Derived.Test.YtnjdckhaecdldaaPatGood
set_option linter.unusedVariables false
namespace Go.Proofs.Ytnjdckhaecdldaa
open Go.RowKit Go.PlainAid

theorem three_blocks (w : World) (o1 o2 o3 : Obj) : (((w.alloc o1).alloc o2).alloc o3).heap[w.heap.size]? = some o1 ∧ (((w.alloc o1).alloc o2).alloc o3).heap[w.heap.size + 1]? = some o2 ∧ (((w.alloc o1).alloc o2).alloc o3).heap[w.heap.size + 1 + 1]? = some o3 := by
  have s1 : (w.alloc o1).heap.size = w.heap.size + 1 := by simp
  have s2 : ((w.alloc o1).alloc o2).heap.size = w.heap.size + 1 + 1 := by simp
  refine ⟨?_, ?_, ?_⟩
  · rw [Below.heap_alloc _ _ _ (by rw [s2]; omega), Below.heap_alloc _ _ _ (by rw [s1]; omega)]; exact heap_alloc_new w o1
  · rw [Below.heap_alloc _ _ _ (by rw [s2]; omega), ← s1]; exact heap_alloc_new _ o2
  · rw [← s2]; exact heap_alloc_new _ o3
set_option maxRecDepth 100000 in
set_option maxHeartbeats 4000000 in
theorem walkFnPatternParts (w : World) (t : ByteArray) (wt : t.size ≤ maxLen) (id : Int) (wi : (Lit.int .u64 id).wf = true) :
    Calls Try.prog 7 #[.string t, .int .u64 id] w fun e w' => e = .returned (.bool true) ∧ Below w.heap.size w w' := by
  unfold maxLen at wt
  obtain ⟨N, rfl, hN⟩ := id_nat wi
  clear wi
  by_cases g0 : 2147483647 < t.size
  · go_enter Try.func7, Try.ntmps7
    go_wp2
    go_ret
    exact ⟨rfl, Below.refl _ _⟩
  by_cases gs : 1000000 < t.size
  · go_enter Try.func7, Try.ntmps7
    go_wp2_with (go_at_call 8; refine (tooLong_yes1 _ _ (by omega) (by omega) (by omega)).mono ?_; rintro e w' ⟨rfl, rfl⟩)
    go_ret
    exact ⟨rfl, (Below.refl _ _).alloc (Nat.le_refl _) _⟩
  have HB0 := Lib.hid ((Below.refl w.heap.size w).alloc (Nat.le_refl _) (.cells #[.int .i64 (t.size : Int)] 3))
  go_enter Try.func7, Try.ntmps7
  go_wp2_with (go_at_call 8; refine (tooLong_no1 _ _ (by omega) (by omega)).mono ?_; rintro e w' ⟨rfl, rfl⟩)
  refine (isBits_any t (by omega) _).mono ?_
  rintro e w' ⟨bb, rfl, rfl, hbb⟩
  cases bb with
  | false =>
    clear hbb
    go_wp2_with fail
    refine (works_any _).mono ?_
    rintro e w1 ⟨rfl, h5⟩
    have HB1 := Lib.hid (HB0.out.trans (h5.mono HB0.out.size))
    clear h5 HB0
    go_wp2
    go_ret
    exact ⟨rfl, HB1.out⟩
  | true =>
  have HI := Lib.hid (hbb rfl)
  clear hbb
  cases hy : (t.toList == (⟨#[121]⟩ : ByteArray).toList) with
  | true =>
    rw [show (⟨#[121]⟩ : ByteArray).toList = [121] by rw [toList_L]; rfl] at hy
    go_wp2_with fail
    refine (works_any _).mono ?_
    rintro e w1 ⟨rfl, h5⟩
    have HB1 := Lib.hid (HB0.out.trans (h5.mono HB0.out.size))
    clear h5 HB0
    go_wp2
    go_ret
    exact ⟨rfl, HB1.out⟩
  | false =>
  have HY : Hid (L t ≠ [121]) := fun h => by
    have : t = ⟨#[121]⟩ := L_inj h
    rw [beq_str.2 this] at hy; cases hy
  rw [show (⟨#[121]⟩ : ByteArray).toList = [121] by rw [toList_L]; rfl] at hy
  by_cases h60 : t.size = 60
  · have e60 : ((t.size : Int) == 60) = true := by simp; omega
    clear h60
    go_wp2_with fail
    refine (works_any _).mono ?_
    rintro e w1 ⟨rfl, h5⟩
    have HB1 := Lib.hid (HB0.out.trans (h5.mono HB0.out.size))
    clear h5 HB0
    go_wp2
    go_ret
    exact ⟨rfl, HB1.out⟩
  · have e60 : ((t.size : Int) == 60) = false := by simp; omega
    have h60' : (L t).length ≠ 60 := by rw [L_len]; exact h60
    have j1 := parts_plus N hN HI.out HY.out h60'
    have j2 := parts_minus N hN HI.out HY.out h60'
    have e1 : L (⟨#[48]⟩ ++ t ++ ⟨#[43, 49]⟩ ++ t) = 48 :: L t ++ 43 :: 49 :: L t := by
      rw [L_append, L_append, L_append, show L ⟨#[48]⟩ = [48] from rfl, show L ⟨#[43, 49]⟩ = [43, 49] from rfl]; simp
    have e2 : L (t ++ ⟨#[45, 48]⟩ ++ t ++ ⟨#[45, 49]⟩ ++ t) = L t ++ 45 :: (48 :: L t ++ 45 :: 49 :: L t) := by
      rw [L_append, L_append, L_append, L_append, show L ⟨#[45, 48]⟩ = [45, 48] from rfl, show L ⟨#[45, 49]⟩ = [45, 49] from rfl]; simp
    rw [← e1] at j1
    rw [← e2] at j2
    obtain ⟨⟨k0, k1, k2, k3, k4⟩, HV⟩ : ∃ J, Hid (judge (L t) (N : Int) = J) := ⟨_, rfl⟩
    rw [HV.out] at j1
    have J1 := Lib.hid j1
    have J2 := Lib.hid j2
    clear j1 j2 e1 e2 h60 h60'
    go_wp2_with fail
    refine (judge_any _ (N : Int) _ ?_).mono ?_
    · omega
    rintro e w1 ⟨rfl, h5⟩
    have HB1 := Lib.hid (HB0.out.trans (h5.mono HB0.out.size))
    clear h5 HB0
    rw [HV.out, Verd.V]
    go_wp2_with fail
    refine (judge_any _ (N : Int) _ ?_).mono ?_
    · simp only [ByteArray.size_append, show (⟨#[48]⟩ : ByteArray).size = 1 from rfl, show (⟨#[43, 49]⟩ : ByteArray).size = 2 from rfl, show (⟨#[45, 48]⟩ : ByteArray).size = 2 from rfl, show (⟨#[45, 49]⟩ : ByteArray).size = 2 from rfl]; omega
    rintro e w2 ⟨rfl, h5⟩
    have HB2 := Lib.hid (HB1.out.trans (h5.mono HB1.out.size))
    clear h5 HB1
    rw [J1.out, Verd.V]
    go_wp2_with fail
    refine (judge_any _ (N : Int) _ ?_).mono ?_
    · simp only [ByteArray.size_append, show (⟨#[48]⟩ : ByteArray).size = 1 from rfl, show (⟨#[43, 49]⟩ : ByteArray).size = 2 from rfl, show (⟨#[45, 48]⟩ : ByteArray).size = 2 from rfl, show (⟨#[45, 49]⟩ : ByteArray).size = 2 from rfl]; omega
    rintro e w3 ⟨rfl, h5⟩
    have HB3 := Lib.hid (HB2.out.trans (h5.mono HB2.out.size))
    clear h5 HB2
    rw [J2.out, Verd.V]
    go_wp2_with fail
    have hT3 := three_blocks w3 (.cells #[.bool k0, .bool k1, .bool k2, .bool k3, .bool k4] 35) (.cells #[.bool k0, .bool k1, .bool k2, .bool k3, .bool k4] 35) (.cells #[.bool true, .bool false, .bool false, .bool false, .bool true] 35)
    have HT3 := Lib.hid hT3
    have HB4 := Lib.hid (((HB3.out.alloc HB3.out.size (.cells #[.bool k0, .bool k1, .bool k2, .bool k3, .bool k4] 35)).alloc (by simp; exact Nat.le_succ_of_le HB3.out.size) (.cells #[.bool k0, .bool k1, .bool k2, .bool k3, .bool k4] 35)).alloc (by simp; exact Nat.le_succ_of_le (Nat.le_succ_of_le HB3.out.size)) (.cells #[.bool true, .bool false, .bool false, .bool false, .bool true] 35))
    clear hT3
    refine (works_any _).mono ?_
    rintro e w4 ⟨rfl, h5⟩
    have b1 := (h5.block w3.heap.size (by simp; omega)).trans HT3.out.1
    have b2 := (h5.block (w3.heap.size + 1) (by simp)).trans HT3.out.2.1
    have b3 := (h5.block (w3.heap.size + 1 + 1) (by simp)).trans HT3.out.2.2
    have cb10 := cell_of_row w4 w3.heap.size 0 _ _ _ b1
    have cb11 := cell_of_row w4 w3.heap.size 1 _ _ _ b1
    have cb12 := cell_of_row w4 w3.heap.size 2 _ _ _ b1
    have cb13 := cell_of_row w4 w3.heap.size 3 _ _ _ b1
    have cb14 := cell_of_row w4 w3.heap.size 4 _ _ _ b1
    have cb20 := cell_of_row w4 (w3.heap.size + 1) 0 _ _ _ b2
    have cb21 := cell_of_row w4 (w3.heap.size + 1) 1 _ _ _ b2
    have cb22 := cell_of_row w4 (w3.heap.size + 1) 2 _ _ _ b2
    have cb23 := cell_of_row w4 (w3.heap.size + 1) 3 _ _ _ b2
    have cb24 := cell_of_row w4 (w3.heap.size + 1) 4 _ _ _ b2
    have cb30 := cell_of_row w4 (w3.heap.size + 1 + 1) 0 _ _ _ b3
    have cb31 := cell_of_row w4 (w3.heap.size + 1 + 1) 1 _ _ _ b3
    have cb32 := cell_of_row w4 (w3.heap.size + 1 + 1) 2 _ _ _ b3
    have cb33 := cell_of_row w4 (w3.heap.size + 1 + 1) 3 _ _ _ b3
    have cb34 := cell_of_row w4 (w3.heap.size + 1 + 1) 4 _ _ _ b3
    simp only [List.getElem?_toArray, List.getElem?_cons_zero, List.getElem?_cons_succ] at cb10 cb11 cb12 cb13 cb14 cb20 cb21 cb22 cb23 cb24 cb30 cb31 cb32 cb33 cb34
    have HB5 := Lib.hid (HB4.out.trans (h5.mono HB4.out.size))
    clear h5 b1 b2 b3 HB3 HT3
    have e1 : (k0 == k0) = true := by simp
    have e2 : (k1 == k1) = true := by simp
    have e3 : (k2 == k2) = true := by simp
    have e4 : (k3 == k3) = true := by simp
    have e5 : (k4 == k4) = true := by simp
    go_wp2
    go_ret
    exact ⟨rfl, HB5.out⟩
end Go.Proofs.Ytnjdckhaecdldaa
