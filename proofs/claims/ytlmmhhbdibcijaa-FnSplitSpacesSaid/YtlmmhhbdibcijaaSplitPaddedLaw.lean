/-
  The contract of spec.Mod at 10, and the walk of the law FnSplitPadded. For every input.
-/
import Derived.Test.YtlmmhhbdibcijaaSplitLaws
import Derived.Deep.RegionWith
namespace Go.Proofs.Ytlmmhhbdibcijaa
open Go.RowKit Go.PlainAid

theorem tmod10 (x : Int) : x.tmod 10 = x % 10 ∨ x.tmod 10 = x % 10 - 10 := by
  rw [Int.tmod_eq_emod]
  split
  · left; simp
  · right; rfl
theorem mod10_any (x : Int) (w : World) : Calls Try.prog 20 #[.int .i64 x, .int .i64 10] w fun e w' => e = .returned (.int .i64 ((x % 10).toNat : Int)) ∧ w' = w := by
  have ht := tmod10 x
  have h0 : -10 ≤ x.tmod 10 := by omega
  have h1 : x.tmod 10 < 10 := Int.tmod_lt_of_pos x (by omega)
  have HE : Hid ((x.tmod 10 + 10) % 10 = ((x % 10).toNat : Int)) := by
    show _ = _
    omega
  clear ht
  go_enter Try.func20, Try.ntmps20
  go_wp2
  go_ret
  exact ⟨by rw [← HE.out]; rfl, rfl⟩
def md (x : Int) : Nat := (x % 10).toNat
theorem md_lt (x : Int) : md x < 10 := by unfold md; omega
theorem md_any (x : Int) (w : World) : Calls Try.prog 20 #[.int .i64 x, .int .i64 10] w fun e w' => e = .returned (.int .i64 (md x : Int)) ∧ w' = w := mod10_any x w
theorem pad_sp (m : Nat) : ∀ a ∈ L ((⟨#[32, 32, 32, 32, 32, 32, 32, 32, 32, 32]⟩ : ByteArray).extract 0 m), isSp a = true := fun a ha => by
  have : L ((⟨#[32, 32, 32, 32, 32, 32, 32, 32, 32, 32]⟩ : ByteArray).extract 0 m) = List.take m [32, 32, 32, 32, 32, 32, 32, 32, 32, 32] := by
    simp [L]
  rw [this] at ha
  have := List.mem_of_mem_take ha
  simp at this
  subst this; rfl

set_option maxHeartbeats 1000000 in
theorem walkFnSplitPadded (w : World) (s : ByteArray) (ws : s.size ≤ maxLen) (x : Int) (_wx : (Lit.int .i64 x).wf = true) (y : Int) (_wy : (Lit.int .i64 y).wf = true) :
    Calls Try.prog 5 #[.string s, .int .i64 x, .int .i64 y] w fun e w' => e = .returned (.bool true) ∧ Below w.heap.size w w' := by
  unfold maxLen at ws
  by_cases h1 : 2147483647 < s.size
  · go_enter Try.func5, Try.ntmps5
    go_wp2
    go_ret
    exact ⟨rfl, Below.refl _ _⟩
  by_cases h2 : 1000000 < s.size
  · go_enter Try.func5, Try.ntmps5
    go_wp2_with (go_at_call 15; refine (tooLong_yes1 _ _ (by omega) (by omega) (by omega)).mono ?_; rintro e w' ⟨rfl, rfl⟩)
    go_ret
    exact ⟨rfl, (Below.refl _ _).alloc (Nat.le_refl _) _⟩
  have hs : s.size ≤ 2147483647 := by omega
  have HB0 := Lib.hid ((Below.refl w.heap.size w).alloc (Nat.le_refl _) (.cells #[.int .i64 (s.size : Int)] 3))
  have hp10 : (⟨#[32, 32, 32, 32, 32, 32, 32, 32, 32, 32]⟩ : ByteArray).size = 10 := rfl
  have hm := md_lt x
  have hn := md_lt y
  have hpm : ((⟨#[32, 32, 32, 32, 32, 32, 32, 32, 32, 32]⟩ : ByteArray).extract 0 (md x)).size = md x := by rw [ByteArray.size_extract, hp10]; omega
  have hpn : ((⟨#[32, 32, 32, 32, 32, 32, 32, 32, 32, 32]⟩ : ByteArray).extract 0 (md y)).size = md y := by rw [ByteArray.size_extract, hp10]; omega
  have hm0 : (md x : Int) ≤ 10 := by omega
  have hn0 : (md y : Int) ≤ 10 := by omega
  have hs1 : ¬ (9223372036854775807 < md x + s.size) := by omega
  have hs2 : ¬ (9223372036854775807 < md x + s.size + md y) := by omega
  have HSZ : Hid (((⟨#[32, 32, 32, 32, 32, 32, 32, 32, 32, 32]⟩ : ByteArray).extract 0 (md x) ++ s ++ (⟨#[32, 32, 32, 32, 32, 32, 32, 32, 32, 32]⟩ : ByteArray).extract 0 (md y)).size ≤ 2147483647) := by show _ ≤ _; rw [ByteArray.size_append, ByteArray.size_append, hpm, hpn]; omega
  have HSP : Hid (∀ fs, splitL (L s) = some fs → splitL (L ((⟨#[32, 32, 32, 32, 32, 32, 32, 32, 32, 32]⟩ : ByteArray).extract 0 (md x) ++ s ++ (⟨#[32, 32, 32, 32, 32, 32, 32, 32, 32, 32]⟩ : ByteArray).extract 0 (md y))) = some fs) := fun fs hf => by
    rw [L_append, L_append, List.append_assoc, splitL_sps _ _ (pad_sp (md x))]
    exact splitL_trail _ (pad_sp (md y)) _ _ _ (Nat.le_refl _) hf
  cases hf : splitL (L s) with
  | none =>
    have HF := Lib.hid hf
    clear hf HSP
    go_enter Try.func5, Try.ntmps5
    go_wp2_with (go_at_call 15; refine (tooLong_no1 _ _ (by omega) (by omega)).mono ?_; rintro e w' ⟨rfl, rfl⟩)
    refine (implSplit_none s _ hs HF.out).mono ?_
    rintro e w1 ⟨rfl, hb1⟩
    have HB1 := Lib.hid (HB0.out.trans (hb1.mono (by simp)))
    clear hb1
    go_wp2_with fail
    go_region_with (first | (go_at_call 20; refine (md_any _ _).mono ?_; rintro e w' ⟨rfl, rfl⟩) | (go_at_call 16; refine (implSplit_free _ _ HSZ.out).mono ?_; rintro e w2 ⟨v2, ok2, rfl, hb2⟩))
    have HB2 := Lib.hid ((below_drewN HB1.out 1).trans (hb2.mono (by simpa using HB1.out.size)))
    clear hb2
    go_wp2_with fail
    refine (implSplit_a _).mono ?_
    rintro e w3 ⟨v3, rfl, hr3, hb3⟩
    have HB3 := Lib.hid (HB2.out.trans (hb3.mono HB2.out.size))
    obtain ⟨ao, cap, rfl⟩ := hr3.shape
    clear hr3 hb3
    go_wp2_with fail
    refine (told_any s _ hs).mono ?_
    rintro e w4 ⟨hb4, told, rfl, ht⟩
    have HB4 := Lib.hid (HB3.out.trans (hb4.mono HB3.out.size))
    have h0 : (told != 0) = true := by
      rcases ht with ⟨_, fs, h⟩ | ⟨rfl, _⟩ | rfl
      · rw [HF.out] at h; cases h
      · rfl
      · rfl
    clear hb4 ht
    go_wp2
    go_ret
    exact ⟨rfl, HB4.out⟩
  | some fs =>
    have HSQ := Lib.hid (HSP.out fs hf)
    have HF := Lib.hid hf
    have hfl : fs.length ≤ 2147483647 := splitL_len hf hs
    clear hf HSP
    go_enter Try.func5, Try.ntmps5
    go_wp2_with (go_at_call 15; refine (tooLong_no1 _ _ (by omega) (by omega)).mono ?_; rintro e w' ⟨rfl, rfl⟩)
    refine (implSplit_some s fs _ hs HF.out).mono ?_
    rintro e w1 ⟨v1, rfl, hr1, hb1⟩
    have HB1 := Lib.hid (HB0.out.trans (hb1.mono (by simp)))
    have HR1 := Lib.hid hr1
    obtain ⟨a1, c1, rfl⟩ := hr1.shape
    clear hb1 hr1
    go_wp2_with fail
    go_region_with (first | (go_at_call 20; refine (md_any _ _).mono ?_; rintro e w' ⟨rfl, rfl⟩) | (go_at_call 16; refine (implSplit_some _ fs _ HSZ.out HSQ.out).mono ?_; rintro e w2 ⟨v2, rfl, hr2, hb2⟩))
    have HB2 := Lib.hid ((below_drewN HB1.out 1).trans (hb2.mono (by simpa using HB1.out.size)))
    have HR12 := Lib.hid ((HR1.out.drewN 1).below hb2 (HR1.out.drewN 1).blt)
    have HR2 := Lib.hid hr2
    obtain ⟨a2, c2, rfl⟩ := hr2.shape
    clear hb2 hr2
    go_wp2_with fail
    refine (implSplit_a _).mono ?_
    rintro e w3 ⟨v3, rfl, hr3, hb3⟩
    have HB3 := Lib.hid (HB2.out.trans (hb3.mono HB2.out.size))
    have HR13 := Lib.hid (HR12.out.below hb3 HR12.out.blt)
    have HR23 := Lib.hid (HR2.out.below hb3 HR2.out.blt)
    obtain ⟨ao, cap, rfl⟩ := hr3.shape
    clear hr3 hb3
    go_wp2_with fail
    refine (told_any s _ hs).mono ?_
    rintro e w4 ⟨hb4, told, rfl, ht⟩
    have HB4 := Lib.hid (HB3.out.trans (hb4.mono HB3.out.size))
    have HR14 := Lib.hid (HR13.out.below hb4 HR13.out.blt)
    have HR24 := Lib.hid (HR23.out.below hb4 HR23.out.blt)
    clear hb4 ht
    by_cases h0 : (told != 0) = true
    · go_wp2
      go_ret
      exact ⟨rfl, HB4.out⟩
    · have h0' : (told != 0) = false := by simpa using h0
      clear h0
      go_wp2_with fail
      refine (sameTexts_yes _ _ _ _ _ _ fs hfl HR14.out.rd HR24.out.rd).mono ?_
      rintro e w6 ⟨rfl, mm, rfl⟩
      go_wp2
      go_ret
      exact ⟨rfl, below_drewN HB4.out _⟩
end Go.Proofs.Ytlmmhhbdibcijaa
