/-
  The walk of the law FnSplitReference. For every input.
-/
import Derived.Test.YtlmmhhbdibcijaaSplitLaws
namespace Go.Proofs.Ytlmmhhbdibcijaa
open Go.RowKit Go.PlainAid

theorem walkFnSplitReference (w : World) (s : ByteArray) (ws : s.size ≤ maxLen) :
    Calls Try.prog 6 #[.string s] w fun e w' => e = .returned (.bool true) ∧ Below w.heap.size w w' := by
  unfold maxLen at ws
  by_cases h1 : 2147483647 < s.size
  · go_enter Try.func6, Try.ntmps6
    go_wp2
    go_ret
    exact ⟨rfl, Below.refl _ _⟩
  by_cases h2 : 1000000 < s.size
  · go_enter Try.func6, Try.ntmps6
    go_wp2_with (go_at_call 15; refine (tooLong_yes1 _ _ (by omega) (by omega) (by omega)).mono ?_; rintro e w' ⟨rfl, rfl⟩)
    go_ret
    exact ⟨rfl, (Below.refl _ _).alloc (Nat.le_refl _) _⟩
  have hs : s.size ≤ 2147483647 := by omega
  have HB0 := Lib.hid ((Below.refl w.heap.size w).alloc (Nat.le_refl _) (.cells #[.int .i64 (s.size : Int)] 3))
  go_enter Try.func6, Try.ntmps6
  go_wp2_with (go_at_call 15; refine (tooLong_no1 _ _ (by omega) (by omega)).mono ?_; rintro e w' ⟨rfl, rfl⟩)
  refine (fieldsOf_any s _ hs).mono ?_
  rintro e w1 ⟨hb1, want, told, rfl, hp⟩
  have HB1 := Lib.hid (HB0.out.trans (hb1.mono (by simp)))
  clear hb1
  by_cases h0 : (told != 0) = true
  · clear hp
    go_wp2_with fail
    cases hf : splitL (L s) with
    | none =>
      have HF := Lib.hid hf
      clear hf
      refine (implSplit_none s _ hs HF.out).mono ?_
      rintro e w2 ⟨rfl, hb2⟩
      have HB2 := Lib.hid (HB1.out.trans (hb2.mono HB1.out.size))
      clear hb2
      go_wp2_with fail
      refine (implSplit_a _).mono ?_
      rintro e w3 ⟨v, rfl, hr3, hb3⟩
      have HB3 := Lib.hid (HB2.out.trans (hb3.mono HB2.out.size))
      obtain ⟨ao, cap, rfl⟩ := hr3.shape
      clear hr3 hb3
      go_wp2
      go_ret
      exact ⟨rfl, HB3.out⟩
    | some fs =>
      have HF := Lib.hid hf
      clear hf
      refine (implSplit_some s fs _ hs HF.out).mono ?_
      rintro e w2 ⟨v2, rfl, hr2, hb2⟩
      have HB2 := Lib.hid (HB1.out.trans (hb2.mono HB1.out.size))
      clear hb2 hr2
      go_wp2_with fail
      refine (implSplit_a _).mono ?_
      rintro e w3 ⟨v, rfl, hr3, hb3⟩
      have HB3 := Lib.hid (HB2.out.trans (hb3.mono HB2.out.size))
      obtain ⟨ao, cap, rfl⟩ := hr3.shape
      clear hr3 hb3
      go_wp2
      go_ret
      exact ⟨rfl, HB3.out⟩
  · have h0' : (told != 0) = false := by simpa using h0
    have hp' : ∃ fs, splitL (L s) = some fs ∧ Row w1 (w.heap.size + 1) 1 want fs.length (fs.map S) := by
      rcases hp with ⟨_, h⟩ | ⟨h, _⟩ | h
      · obtain ⟨fs, e1, e2⟩ := h; exact ⟨fs, e1, by simpa using e2⟩
      · simp [h] at h0
      · simp [h] at h0
    clear hp h0
    obtain ⟨fs, hf, hr1⟩ := hp'
    have HF := Lib.hid hf
    have HR1 := Lib.hid hr1
    obtain ⟨a1, c1, rfl⟩ := hr1.shape
    clear hf hr1
    have hfl : fs.length ≤ 2147483647 := splitL_len HF.out hs
    go_wp2_with fail
    refine (implSplit_some s fs _ hs HF.out).mono ?_
    rintro e w2 ⟨v2, rfl, hr2, hb2⟩
    have HB2 := Lib.hid (HB1.out.trans (hb2.mono HB1.out.size))
    have HR12 := Lib.hid (HR1.out.below hb2 HR1.out.blt)
    have HR2 := Lib.hid hr2
    obtain ⟨a2, c2, rfl⟩ := hr2.shape
    clear hb2 hr2
    go_wp2_with fail
    refine (implSplit_a _).mono ?_
    rintro e w3 ⟨v, rfl, hr3, hb3⟩
    have HB3 := Lib.hid (HB2.out.trans (hb3.mono HB2.out.size))
    have HR13 := Lib.hid (HR12.out.below hb3 HR12.out.blt)
    have HR23 := Lib.hid (HR2.out.below hb3 HR2.out.blt)
    obtain ⟨ao, cap, rfl⟩ := hr3.shape
    clear hr3 hb3
    go_wp2_with fail
    refine (sameTexts_yes _ _ _ _ _ _ fs hfl HR23.out.rd HR13.out.rd).mono ?_
    rintro e w4 ⟨rfl, m, rfl⟩
    go_wp2
    go_ret
    exact ⟨rfl, below_drewN HB3.out _⟩
end Go.Proofs.Ytlmmhhbdibcijaa
