/-
  The walks of the laws FnEditReplace, FnEditInsert, FnEditDelete and FnEditsNone. For every input.
-/
import Derived.Test.YtboiigeomgdkjaaGoodEdit
set_option linter.unusedVariables false
set_option maxHeartbeats 2000000
set_option maxRecDepth 100000
namespace Go.Proofs.Ytboiigeomgdkjaa
open Go.RowKit Go.PlainAid Go.Lib

theorem walkFnEditReplace (w : World) (b : ByteArray) (w0 : b.size ≤ maxLen) (t : ByteArray) (w1 : t.size ≤ maxLen) (e : ByteArray) (w2 : e.size ≤ maxLen) (p : ByteArray) (w3 : p.size ≤ maxLen) :
    Calls Try.prog 7 #[.string b, .string t, .string e, .string p] w fun e w' => e = .returned (.bool true) ∧ Below w.heap.size w w' := by
  unfold maxLen at w0
  unfold maxLen at w1
  unfold maxLen at w2
  unfold maxLen at w3
  by_cases h0 : 2147483647 < b.size
  · go_enter Try.func7, Try.ntmps7
    go_wp2
    go_ret
    exact ⟨rfl, Below.refl _ _⟩
  by_cases h1 : 2147483647 < t.size
  · go_enter Try.func7, Try.ntmps7
    go_wp2
    go_ret
    exact ⟨rfl, Below.refl _ _⟩
  by_cases h2 : 2147483647 < e.size
  · go_enter Try.func7, Try.ntmps7
    go_wp2
    go_ret
    exact ⟨rfl, Below.refl _ _⟩
  by_cases h3 : 2147483647 < p.size
  · go_enter Try.func7, Try.ntmps7
    go_wp2
    go_ret
    exact ⟨rfl, Below.refl _ _⟩
  by_cases hx : 1000000 < b.size + t.size + e.size + p.size
  · go_enter Try.func7, Try.ntmps7
    go_wp2_with (go_at_call 13; refine (tooLong_yes4 _ _ _ _ _ (by omega) (by omega) (by omega) (by omega) (by omega) (by omega) (by omega) (by omega) (by omega)).mono ?_; rintro e w' ⟨rfl, rfl⟩)
    go_ret
    exact ⟨rfl, (Below.refl _ _).alloc (Nat.le_refl _) _⟩
  have HB0 := Lib.hid ((Below.refl w.heap.size w).alloc (Nat.le_refl _) (.cells #[.int .i64 (b.size : Int), .int .i64 (t.size : Int), .int .i64 (e.size : Int), .int .i64 (p.size : Int)] 3))
  have hz : (w.alloc (.cells #[.int .i64 (b.size : Int), .int .i64 (t.size : Int), .int .i64 (e.size : Int), .int .i64 (p.size : Int)] 3)).heap.size = w.heap.size + 1 := by simp
  have hed := edited_one (w.alloc (.cells #[.int .i64 (b.size : Int), .int .i64 (t.size : Int), .int .i64 (e.size : Int), .int .i64 (p.size : Int)] 3)) b t e p (by omega) (by omega) (by omega) (by omega)
  rw [hz] at hed
  go_enter Try.func7, Try.ntmps7
  go_wp2_with (go_at_call 13; refine (tooLong_no4 _ _ _ _ _ (by omega) (by omega) (by omega) (by omega) (by omega)).mono ?_; rintro e w' ⟨rfl, rfl⟩)
  refine hed.mono ?_
  clear hed
  rintro e w1 ⟨rfl, hb⟩
  have HB1 := Lib.hid ((HB0.out.alloc HB0.out.size _).trans (hb.mono (by simp; omega)))
  clear hb
  go_wp2
  go_ret
  exact ⟨rfl, HB1.out⟩
theorem walkFnEditInsert (w : World) (b : ByteArray) (w0 : b.size ≤ maxLen) (e : ByteArray) (w1 : e.size ≤ maxLen) (p : ByteArray) (w2 : p.size ≤ maxLen) :
    Calls Try.prog 6 #[.string b, .string e, .string p] w fun e w' => e = .returned (.bool true) ∧ Below w.heap.size w w' := by
  unfold maxLen at w0
  unfold maxLen at w1
  unfold maxLen at w2
  by_cases h0 : 2147483647 < b.size
  · go_enter Try.func6, Try.ntmps6
    go_wp2
    go_ret
    exact ⟨rfl, Below.refl _ _⟩
  by_cases h1 : 2147483647 < e.size
  · go_enter Try.func6, Try.ntmps6
    go_wp2
    go_ret
    exact ⟨rfl, Below.refl _ _⟩
  by_cases h2 : 2147483647 < p.size
  · go_enter Try.func6, Try.ntmps6
    go_wp2
    go_ret
    exact ⟨rfl, Below.refl _ _⟩
  by_cases hx : 1000000 < b.size + e.size + p.size
  · go_enter Try.func6, Try.ntmps6
    go_wp2_with (go_at_call 13; refine (tooLong_yes3 _ _ _ _ (by omega) (by omega) (by omega) (by omega) (by omega) (by omega) (by omega)).mono ?_; rintro e w' ⟨rfl, rfl⟩)
    go_ret
    exact ⟨rfl, (Below.refl _ _).alloc (Nat.le_refl _) _⟩
  have HB0 := Lib.hid ((Below.refl w.heap.size w).alloc (Nat.le_refl _) (.cells #[.int .i64 (b.size : Int), .int .i64 (e.size : Int), .int .i64 (p.size : Int)] 3))
  have hz : (w.alloc (.cells #[.int .i64 (b.size : Int), .int .i64 (e.size : Int), .int .i64 (p.size : Int)] 3)).heap.size = w.heap.size + 1 := by simp
  have hed := edited_one (w.alloc (.cells #[.int .i64 (b.size : Int), .int .i64 (e.size : Int), .int .i64 (p.size : Int)] 3)) b ⟨#[]⟩ e p (by omega) (by decide) (by omega) (by omega)
  rw [show b ++ (⟨#[]⟩ : ByteArray) = b from ByteArray.append_empty, show (b.size : Int) + ((⟨#[]⟩ : ByteArray).size : Int) = (b.size : Int) from Int.add_zero _] at hed
  rw [hz] at hed
  go_enter Try.func6, Try.ntmps6
  go_wp2_with (go_at_call 13; refine (tooLong_no3 _ _ _ _ (by omega) (by omega) (by omega) (by omega)).mono ?_; rintro e w' ⟨rfl, rfl⟩)
  refine hed.mono ?_
  clear hed
  rintro e w1 ⟨rfl, hb⟩
  have HB1 := Lib.hid ((HB0.out.alloc HB0.out.size _).trans (hb.mono (by simp; omega)))
  clear hb
  go_wp2
  go_ret
  exact ⟨rfl, HB1.out⟩
theorem walkFnEditDelete (w : World) (b : ByteArray) (w0 : b.size ≤ maxLen) (t : ByteArray) (w1 : t.size ≤ maxLen) (e : ByteArray) (w2 : e.size ≤ maxLen) :
    Calls Try.prog 5 #[.string b, .string t, .string e] w fun e w' => e = .returned (.bool true) ∧ Below w.heap.size w w' := by
  unfold maxLen at w0
  unfold maxLen at w1
  unfold maxLen at w2
  by_cases h0 : 2147483647 < b.size
  · go_enter Try.func5, Try.ntmps5
    go_wp2
    go_ret
    exact ⟨rfl, Below.refl _ _⟩
  by_cases h1 : 2147483647 < t.size
  · go_enter Try.func5, Try.ntmps5
    go_wp2
    go_ret
    exact ⟨rfl, Below.refl _ _⟩
  by_cases h2 : 2147483647 < e.size
  · go_enter Try.func5, Try.ntmps5
    go_wp2
    go_ret
    exact ⟨rfl, Below.refl _ _⟩
  by_cases hx : 1000000 < b.size + t.size + e.size
  · go_enter Try.func5, Try.ntmps5
    go_wp2_with (go_at_call 13; refine (tooLong_yes3 _ _ _ _ (by omega) (by omega) (by omega) (by omega) (by omega) (by omega) (by omega)).mono ?_; rintro e w' ⟨rfl, rfl⟩)
    go_ret
    exact ⟨rfl, (Below.refl _ _).alloc (Nat.le_refl _) _⟩
  have HB0 := Lib.hid ((Below.refl w.heap.size w).alloc (Nat.le_refl _) (.cells #[.int .i64 (b.size : Int), .int .i64 (t.size : Int), .int .i64 (e.size : Int)] 3))
  have hz : (w.alloc (.cells #[.int .i64 (b.size : Int), .int .i64 (t.size : Int), .int .i64 (e.size : Int)] 3)).heap.size = w.heap.size + 1 := by simp
  have hed := edited_one (w.alloc (.cells #[.int .i64 (b.size : Int), .int .i64 (t.size : Int), .int .i64 (e.size : Int)] 3)) b t e ⟨#[]⟩ (by omega) (by omega) (by omega) (by decide)
  rw [show b ++ (⟨#[]⟩ : ByteArray) = b from ByteArray.append_empty] at hed
  rw [hz] at hed
  go_enter Try.func5, Try.ntmps5
  go_wp2_with (go_at_call 13; refine (tooLong_no3 _ _ _ _ (by omega) (by omega) (by omega) (by omega)).mono ?_; rintro e w' ⟨rfl, rfl⟩)
  refine hed.mono ?_
  clear hed
  rintro e w1 ⟨rfl, hb⟩
  have HB1 := Lib.hid ((HB0.out.alloc HB0.out.size _).trans (hb.mono (by simp; omega)))
  clear hb
  go_wp2
  go_ret
  exact ⟨rfl, HB1.out⟩
theorem walkFnEditsNone (w : World) (d : ByteArray) (w0 : d.size ≤ maxLen) :
    Calls Try.prog 3 #[.string d] w fun e w' => e = .returned (.bool true) ∧ Below w.heap.size w w' := by
  unfold maxLen at w0
  by_cases h0 : 2147483647 < d.size
  · go_enter Try.func3, Try.ntmps3
    go_wp2
    go_ret
    exact ⟨rfl, Below.refl _ _⟩
  by_cases hx : 1000000 < d.size
  · go_enter Try.func3, Try.ntmps3
    go_wp2_with (go_at_call 13; refine (tooLong_yes1 _ _ (by omega) (by omega) (by omega)).mono ?_; rintro e w' ⟨rfl, rfl⟩)
    go_ret
    exact ⟨rfl, (Below.refl _ _).alloc (Nat.le_refl _) _⟩
  have HB0 := Lib.hid ((Below.refl w.heap.size w).alloc (Nat.le_refl _) (.cells #[.int .i64 (d.size : Int)] 3))
  have hz : (w.alloc (.cells #[.int .i64 (d.size : Int)] 3)).heap.size = w.heap.size + 1 := by simp
  have hed := fun W => edited_any W d [] none 0 (arg_nil W) _ (good_nil d (by omega))
  have hte := fun W => editedText_any W d [] none 0 (arg_nil W) _ (good_nil d (by omega))
  have htw := fun W => editedTwice_any W d [] [] none none 0 0 (arg_nil W) (arg_nil W) _ _ (good_nil d (by omega)) (fun g _ => good_nil d (by omega))
  rw [mkB_L] at hed hte
  simp only [mkB_L] at htw
  have HED := Lib.hid hed
  have HTE := Lib.hid hte
  have HTW := Lib.hid htw
  clear hed hte htw hz
  go_enter Try.func3, Try.ntmps3
  go_wp2_with (go_at_call 13; refine (tooLong_no1 _ _ (by omega) (by omega)).mono ?_; rintro e w' ⟨rfl, rfl⟩)
  refine (HTW.out _).mono ?_
  rintro e w1 ⟨rfl, hb⟩
  have HB1 := Lib.hid (HB0.out.trans (hb.mono HB0.out.size))
  clear hb
  go_wp2_with fail
  refine (HED.out _).mono ?_
  rintro e w2 ⟨rfl, hb⟩
  have HB2 := Lib.hid (HB1.out.trans (hb.mono HB1.out.size))
  clear hb
  go_wp2_with fail
  refine (HTE.out _).mono ?_
  rintro e w3 ⟨rfl, hb⟩
  have HB3 := Lib.hid (HB2.out.trans (hb.mono HB2.out.size))
  clear hb
  go_wp2
  go_ret
  exact ⟨rfl, HB3.out⟩
end Go.Proofs.Ytboiigeomgdkjaa
