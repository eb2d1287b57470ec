/-
  The walk of the law FnSplitOne. For every input.
-/
import Derived.Test.YtlmmhhbdibcijaaSplitLaws
namespace Go.Proofs.Ytlmmhhbdibcijaa
open Go.RowKit Go.PlainAid

theorem split_between (q : UInt8) (s : ByteArray) (hq : isQ q = true) (h : hasI s (q.toNat : Int) = false) : splitL (L (⟨#[q]⟩ ++ s ++ ⟨#[q]⟩)) = some [L s] := by
  have e : L (⟨#[q]⟩ ++ s ++ ⟨#[q]⟩) = q :: (L s ++ q :: []) := by rw [L_append, L_append]; rfl
  rw [e, splitL_quoted q _ _ hq (fun hm => by rw [(hasI_iff s q).2 hm] at h; cases h), splitL_nil]
  rfl

theorem walkFnSplitOne (w : World) (s : ByteArray) (ws : s.size ≤ maxLen) (double : Bool) :
    Calls Try.prog 4 #[.string s, .bool double] w fun e w' => e = .returned (.bool true) ∧ Below w.heap.size w w' := by
  have wm := ws
  unfold maxLen at ws
  by_cases h1 : 2147483647 < s.size
  · go_enter Try.func4, Try.ntmps4
    go_wp2
    go_ret
    exact ⟨rfl, Below.refl _ _⟩
  by_cases h2 : 1000000 < s.size
  · go_enter Try.func4, Try.ntmps4
    go_wp2_with (go_at_call 15; refine (tooLong_yes1 _ _ (by omega) (by omega) (by omega)).mono ?_; rintro e w' ⟨rfl, rfl⟩)
    go_ret
    exact ⟨rfl, (Below.refl _ _).alloc (Nat.le_refl _) _⟩
  have HB0 := Lib.hid ((Below.refl w.heap.size w).alloc (Nat.le_refl _) (.cells #[.int .i64 (s.size : Int)] 3))
  have main : ∀ (q : UInt8) (qb : ByteArray), isQ q = true → qb = ⟨#[q]⟩ → (q = 34 ∧ double = true ∨ q = 39 ∧ double = false) → Calls Try.prog 4 #[.string s, .bool double] w fun e w' => e = .returned (.bool true) ∧ Below w.heap.size w w' := by
    intro q qb hq hqb hd
    have sz : ∀ q : UInt8, (⟨#[q]⟩ ++ s ++ ⟨#[q]⟩ : ByteArray).size = s.size + 2 := fun q => by rw [ByteArray.size_append, ByteArray.size_append]; show 1 + s.size + 1 = _; omega
    have q34 : ∀ h, ((({ data := #[34] } : ByteArray)[0]'h).toNat : Int) = 34 := fun _ => rfl
    have q39 : ∀ h, ((({ data := #[39] } : ByteArray)[0]'h).toNat : Int) = 39 := fun _ => rfl
    by_cases hh : hasI s (q.toNat : Int) = true
    · rcases hd with ⟨rfl, rfl⟩ | ⟨rfl, rfl⟩
      all_goals
        have HH := Lib.hid hh
        clear hh
        go_enter Try.func4, Try.ntmps4
        go_wp2_with (go_at_call 15; refine (tooLong_no1 _ _ (by omega) (by omega)).mono ?_; rintro e w' ⟨rfl, rfl⟩)
        refine (implSplit_free _ _ (by rw [sz]; omega)).mono ?_
        rintro e w1 ⟨v1, ok, rfl, hb1⟩
        have HB1 := Lib.hid (HB0.out.trans (hb1.mono (by simp)))
        clear hb1
        go_wp2_with fail
        refine (implSplit_a _).mono ?_
        rintro e w2 ⟨v, rfl, hr2, hb2⟩
        have HB2 := Lib.hid (HB1.out.trans (hb2.mono HB1.out.size))
        obtain ⟨ao, cap, rfl⟩ := hr2.shape
        clear hr2 hb2
        go_wp2_with fail
        refine (has_any s _ _ wm).mono ?_
        rintro e w3 ⟨rfl, rfl⟩
        first | have hh : hasI s 34 = true := HH.out | have hh : hasI s 39 = true := HH.out
        go_wp2
        go_ret
        exact ⟨rfl, HB2.out⟩
    · have hh' : hasI s (q.toNat : Int) = false := by simpa using hh
      clear hh
      have HF := Lib.hid (split_between q s hq hh')
      rcases hd with ⟨rfl, rfl⟩ | ⟨rfl, rfl⟩
      all_goals
        have HH := Lib.hid hh'
        clear hh'
        go_enter Try.func4, Try.ntmps4
        go_wp2_with (go_at_call 15; refine (tooLong_no1 _ _ (by omega) (by omega)).mono ?_; rintro e w' ⟨rfl, rfl⟩)
        refine (implSplit_some _ _ _ (by rw [sz]; omega) HF.out).mono ?_
        rintro e w1 ⟨v1, rfl, hr1, hb1⟩
        have HB1 := Lib.hid (HB0.out.trans (hb1.mono (by simp)))
        have HR1 := Lib.hid hr1
        obtain ⟨a1, c1, rfl⟩ := hr1.shape
        clear hb1 hr1
        go_wp2_with fail
        refine (implSplit_a _).mono ?_
        rintro e w2 ⟨v, rfl, hr2, hb2⟩
        have HB2 := Lib.hid (HB1.out.trans (hb2.mono HB1.out.size))
        have HR2 := Lib.hid (HR1.out.below hb2 HR1.out.blt)
        obtain ⟨ao, cap, rfl⟩ := hr2.shape
        clear hr2 hb2
        go_wp2_with fail
        refine (has_any s _ _ wm).mono ?_
        rintro e w3 ⟨rfl, rfl⟩
        first | have hh : hasI s 34 = false := HH.out | have hh : hasI s 39 = false := HH.out
        go_wp2_with fail
        refine (sameTexts_yes _ _ _ 1 _ _ [L s] (by omega) (HR2.out.alloc _).rd (rd_new1 _ _ _)).mono ?_
        rintro e w4 ⟨rfl, m, rfl⟩
        go_wp2
        go_ret
        exact ⟨rfl, below_drewN (HB2.out.alloc HB2.out.size _) _⟩
  cases double with
  | true => exact main 34 _ (by decide) rfl (.inl ⟨rfl, rfl⟩)
  | false => exact main 39 _ (by decide) rfl (.inr ⟨rfl, rfl⟩)
end Go.Proofs.Ytlmmhhbdibcijaa
