/-
  The walk of the law FnEditsTurned. For every input.
-/
import Derived.Test.YtboiigeomgdkjaaApartPlain
set_option linter.unusedVariables false
set_option maxHeartbeats 4000000
set_option maxRecDepth 100000
namespace Go.Proofs.Ytboiigeomgdkjaa
open Go.RowKit Go.PlainAid Go.Lib

theorem walkFnEditsTurned (w : World) (d : ByteArray) (wd : d.size ≤ maxLen) (a : Option Addr) (len cap : Nat) (ss : List St) (hsl : ss.length = len) (hlc : len ≤ cap) (hcm : cap ≤ maxLen) (hwf : ∀ z ∈ ss, stWf z) (ha : Arg w w.heap.size 3 a len (stepCells ss)) :
    Calls Try.prog 10 #[.string d, .slice a len cap] w fun e w' => e = .returned (.bool true) ∧ Below w.heap.size w w' := by
  subst hsl
  unfold maxLen at wd hcm
  have HW : Hid (∀ z ∈ ss, z.2.2.size ≤ 9223372036854775807) := fun z hz => by have := (hwf z hz).2.2; unfold maxLen at this; omega
  have HA := Lib.hid ha
  clear ha hwf
  by_cases h1 : 2147483647 < d.size
  · go_enter Try.func10, Try.ntmps10
    go_wp2
    go_ret
    exact ⟨rfl, Below.refl _ _⟩
  go_enter Try.func10, Try.ntmps10
  go_wp2_with fail
  refine (fits1_any a cap ss w HA.out (by omega)).mono ?_
  rintro e w1 ⟨bb, rfl, hbb, hb1⟩
  have HB1 := Lib.hid hb1
  clear hb1
  cases bb with
  | false =>
    go_wp2_with fail
    go_ret
    exact ⟨rfl, HB1.out⟩
  | true =>
  clear hbb
  go_wp2_with fail
  refine (sizeOfSteps_any a cap ss w1 ((HA.out.below HB1.out).more HB1.out.size) (by omega) HW.out).mono ?_
  rintro e w2 ⟨sz, rfl, hs1, hs2, hb2⟩
  have HB2 := Lib.hid (HB1.out.trans (hb2.mono HB1.out.size))
  have HS2 := Lib.hid hs2
  clear hb2 hs2
  by_cases h2 : 1000000 < d.size + sz
  · go_wp2_with (go_at_call 13; refine (tooLong_yes2 _ _ _ (by omega) (by omega) (by omega) (by omega) (by omega)).mono ?_; rintro e w' ⟨rfl, rfl⟩)
    go_ret
    exact ⟨rfl, HB2.out.alloc HB2.out.size _⟩
  have HB3 := Lib.hid (HB2.out.alloc HB2.out.size (.cells #[.int .i64 (d.size : Int), .int .i64 (sz : Int)] 3))
  have HZ := Lib.hid (HS2.out (by omega))
  have hss : ss.length ≤ 1000000 := HZ.out.1
  have hw3 : (w2.alloc (.cells #[.int .i64 (d.size : Int), .int .i64 (sz : Int)] 3)).heap.size = w2.heap.size + 1 := by simp
  go_wp2_with (go_at_call 13; refine (tooLong_no2 _ _ _ (by omega) (by omega) (by omega)).mono ?_; rintro e w' ⟨rfl, rfl⟩)
  refine (apart_any a cap ss d.size _ ((HA.out.below HB3.out).more HB3.out.size) hlc hcm).mono ?_
  rintro e w4 ⟨bb, rfl, hbb, hb4⟩
  have HB4 := Lib.hid (HB3.out.trans (hb4.mono HB3.out.size))
  clear hb4 hw3
  cases bb with
  | false =>
    have hed := fun W => edited_any W ⟨#[97]⟩ [] none 0 (arg_nil W) _ (good_nil ⟨#[97]⟩ (by decide))
    rw [mkB_L] at hed
    go_wp2_with fail
    refine (hed _).mono ?_
    rintro e w5 ⟨rfl, hb5⟩
    have HB5 := Lib.hid (HB4.out.trans (hb5.mono HB4.out.size))
    clear hb5 hed
    go_wp2_with fail
    go_ret
    exact ⟨rfl, HB5.out⟩
  | true =>
  have HP := Lib.hid (hbb rfl)
  clear hbb
  obtain ⟨T, hT⟩ := aprt_text HP.out
  have HT := Lib.hid hT
  have HG := Lib.hid (good_txt (d := d) (by omega) hss HP.out.1 HZ.out.2 hT)
  clear hT
  go_wp2_with fail
  refine (edited_any _ d ss a cap ((HA.out.below HB4.out).more HB4.out.size) T HG.out).mono ?_
  rintro e w5 ⟨rfl, hb5⟩
  have HB5 := Lib.hid (HB4.out.trans (hb5.mono HB4.out.size))
  clear hb5
  go_wp2_with fail
  refine (turned_any a cap ss _ ((HA.out.below HB5.out).more HB5.out.size) (by omega)).mono ?_
  rintro e w6 ⟨v6, rfl, ho6, hb6⟩
  have HB6 := Lib.hid (HB5.out.trans (hb6.mono HB5.out.size))
  obtain ⟨va6, vc6, rfl⟩ := owns_shape ho6
  have HA6 := Lib.hid (owns_steps ho6)
  have hl6 : ss.reverse.length = ss.length := List.length_reverse
  have HG6 := Lib.hid (good_txt (d := d) (ss := ss.reverse) (T := T) (by omega) (by omega) (mem_mv hl6 (rev_mv ss) HP.out.1) (mem_mv hl6 (rev_mv ss) HZ.out.2) (txt_mv hl6 (rev_mv ss) HT.out))
  clear hb6 ho6
  obtain ⟨rs, hrs⟩ : ∃ rs, rs = ss.reverse := ⟨_, rfl⟩
  rw [← hrs] at HA6 HG6 ⊢
  clear hrs hl6
  go_wp2_with fail
  refine (edited_any _ d rs va6 vc6 HA6.out T HG6.out).mono ?_
  rintro e w7 ⟨rfl, hb7⟩
  have HB7 := Lib.hid (HB6.out.trans (hb7.mono HB6.out.size))
  clear hb7
  go_wp2_with fail
  refine (sorted_any a cap ss _ ((HA.out.below HB7.out).more HB7.out.size) (by omega)).mono ?_
  rintro e w8 ⟨l8, v8, rfl, hln8, hmv8, hsr8, ho8, hb8⟩
  have HB8 := Lib.hid (HB7.out.trans (hb8.mono HB7.out.size))
  obtain ⟨va8, vc8, rfl⟩ := owns_shape ho8
  have HA8 := Lib.hid (owns_steps ho8)
  have HG8 := Lib.hid (good_txt (d := d) (ss := l8) (T := T) (by omega) (by omega) (mem_mv hln8 hmv8 HP.out.1) (mem_mv hln8 hmv8 HZ.out.2) (txt_mv hln8 hmv8 HT.out))
  clear hb8 ho8 hmv8 hsr8 hln8
  go_wp2_with fail
  refine (edited_any _ d l8 va8 vc8 HA8.out T HG8.out).mono ?_
  rintro e w9 ⟨rfl, hb9⟩
  have HB9 := Lib.hid (HB8.out.trans (hb9.mono HB8.out.size))
  clear hb9
  have hed := fun W => edited_any W ⟨#[97]⟩ [] none 0 (arg_nil W) _ (good_nil ⟨#[97]⟩ (by decide))
  rw [mkB_L] at hed
  go_wp2_with fail
  refine (hed _).mono ?_
  rintro e w10 ⟨rfl, hb10⟩
  have HB10 := Lib.hid (HB9.out.trans (hb10.mono HB9.out.size))
  clear hb10
  go_wp2_with fail
  go_ret
  exact ⟨rfl, HB10.out⟩
end Go.Proofs.Ytboiigeomgdkjaa
