/-
  The walks of the laws FnSplitMissing, FnSplitReference, FnSplitOne. For every input.
-/
import Derived.Test.YtlmmhhbdibcijaaFields
import Derived.Test.YtlmmhhbdibcijaaTexts
import Derived.Test.YtlmmhhbdibcijaaLong
namespace Go.Proofs.Ytlmmhhbdibcijaa
open Go.RowKit Go.PlainAid

theorem ret_true {b : Bool} (h : b = true) : Ending.returned (.bool b) = .returned (.bool true) := by rw [h]
theorem split_a : splitL (L ⟨#[97]⟩) = some [[97]] := by
  have := splitL_word [97] [] 97 rfl (by decide) (by simp [isSp]) (.inl rfl)
  rw [List.append_nil, splitL_nil] at this
  exact this
/-- Split of "a", which each law asks for -/
theorem implSplit_a (w : World) : Calls Try.prog 16 #[.string ⟨#[97]⟩] w (SplitImplPost [[97]] w) := implSplit_some _ _ w (by decide) split_a

theorem splitL_len {s : ByteArray} {fs : List Bs} (h : splitL (L s) = some fs) (hs : s.size ≤ 2147483647) : fs.length ≤ 2147483647 := by
  have := splitL_count _ _ _ (Nat.le_refl _) h
  rw [L_len] at this; omega
def ToldPost (s : ByteArray) (w : World) (e : Ending) (w' : World) : Prop :=
  Below w.heap.size w w' ∧ ∃ told : Int, e = .returned (.int .i64 told) ∧ ((told = 0 ∧ ∃ fs, splitL (L s) = some fs) ∨ (told = 1 ∧ splitL (L s) = none) ∨ told = 2)
theorem told_any (s : ByteArray) (w : World) (hs : s.size ≤ 2147483647) : Calls Try.prog 17 #[.string s] w (ToldPost s w) := by
  go_enter Try.func17, Try.ntmps17
  go_wp2_with fail
  refine (fieldsOf_any s _ hs).mono ?_
  intro e w' hp
  obtain ⟨hb, v, told, rfl, hp⟩ := hp
  have HP := Lib.hid hp
  have HB := Lib.hid hb
  clear hp hb
  go_wp2
  go_ret
  refine ⟨HB.out, told, rfl, ?_⟩
  rcases HP.out with ⟨h0, fs, h1, _⟩ | h | h
  · exact .inl ⟨h0, fs, h1⟩
  · exact .inr (.inl h)
  · exact .inr (.inr h)

theorem walkFnSplitMissing (w : World) (s : ByteArray) (ws : s.size ≤ maxLen) :
    Calls Try.prog 3 #[.string s] w fun e w' => e = .returned (.bool true) ∧ Below w.heap.size w w' := by
  unfold maxLen at ws
  by_cases h1 : 2147483647 < s.size
  · go_enter Try.func3, Try.ntmps3
    go_wp2
    go_ret
    exact ⟨rfl, Below.refl _ _⟩
  by_cases h2 : 1000000 < s.size
  · go_enter Try.func3, Try.ntmps3
    go_wp2_with (go_at_call 15; refine (tooLong_yes1 _ _ (by omega) (by omega) (by omega)).mono ?_; rintro e w' ⟨rfl, rfl⟩)
    go_ret
    exact ⟨rfl, (Below.refl _ _).alloc (Nat.le_refl _) _⟩
  have hs : s.size ≤ 2147483647 := by omega
  have HB0 := Lib.hid ((Below.refl w.heap.size w).alloc (Nat.le_refl _) (.cells #[.int .i64 (s.size : Int)] 3))
  cases hf : splitL (L s) with
  | none =>
    have HF := Lib.hid hf
    clear hf
    go_enter Try.func3, Try.ntmps3
    go_wp2_with (go_at_call 15; refine (tooLong_no1 _ _ (by omega) (by omega)).mono ?_; rintro e w' ⟨rfl, rfl⟩)
    refine (implSplit_none s _ hs HF.out).mono ?_
    rintro e w1 ⟨rfl, hb1⟩
    have HB1 := Lib.hid (HB0.out.trans (hb1.mono (by simp)))
    clear hb1
    go_wp2_with fail
    refine (implSplit_a _).mono ?_
    rintro e w2 ⟨v, rfl, hr2, hb2⟩
    have HB2 := Lib.hid (HB1.out.trans (hb2.mono HB1.out.size))
    obtain ⟨ao, cap, rfl⟩ := hr2.shape
    clear hr2 hb2
    go_wp2_with fail
    refine (told_any s _ hs).mono ?_
    rintro e w3 ⟨hb3, told, rfl, ht⟩
    have HB3 := Lib.hid (HB2.out.trans (hb3.mono HB2.out.size))
    clear hb3 ht
    by_cases h1 : (told != 1) = true
    · go_wp2
      go_ret
      exact ⟨rfl, HB3.out⟩
    · have h1' : (told != 1) = false := by simpa using h1
      clear h1
      go_wp2
      go_ret
      exact ⟨rfl, HB3.out⟩
  | some fs =>
    have HF := Lib.hid hf
    clear hf
    go_enter Try.func3, Try.ntmps3
    go_wp2_with (go_at_call 15; refine (tooLong_no1 _ _ (by omega) (by omega)).mono ?_; rintro e w' ⟨rfl, rfl⟩)
    refine (implSplit_some s fs _ hs HF.out).mono ?_
    rintro e w1 ⟨v1, rfl, hr1, hb1⟩
    have HB1 := Lib.hid (HB0.out.trans (hb1.mono (by simp)))
    clear hb1 hr1
    go_wp2_with fail
    refine (implSplit_a _).mono ?_
    rintro e w2 ⟨v, rfl, hr2, hb2⟩
    have HB2 := Lib.hid (HB1.out.trans (hb2.mono HB1.out.size))
    obtain ⟨ao, cap, rfl⟩ := hr2.shape
    clear hr2 hb2
    go_wp2_with fail
    refine (told_any s _ hs).mono ?_
    rintro e w3 ⟨hb3, told, rfl, ht⟩
    have HB3 := Lib.hid (HB2.out.trans (hb3.mono HB2.out.size))
    have h1 : (told != 1) = true := by
      rcases ht with ⟨h, _⟩ | ⟨_, h⟩ | h
      · simp [h]
      · rw [HF.out] at h; cases h
      · simp [h]
    clear hb3 ht
    go_wp2
    go_ret
    exact ⟨rfl, HB3.out⟩
end Go.Proofs.Ytlmmhhbdibcijaa
