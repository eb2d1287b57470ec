/-
  The walk of the law FnSplitAgain. For every input.
-/
import Derived.Test.YtlmmhhbdibcijaaJoinLaws
namespace Go.Proofs.Ytlmmhhbdibcijaa
open Go.RowKit Go.PlainAid

theorem splitL_tot1 : ∀ (n : Nat) (l : Bs) (f : List Bs), l.length ≤ n → splitL l = some f → tot1 f ≤ 2 * l.length := by
  intro n
  induction n with
  | zero =>
    intro l f hl h
    obtain rfl : l = [] := List.eq_nil_of_length_eq_zero (by omega)
    rw [splitL_nil] at h; cases h; simp [tot1]
  | succ n ih =>
    intro l f hl h
    have hdl := drop_len (p := isSp) l
    match he : l.dropWhile isSp with
    | [] => rw [splitL_done he] at h; cases h; simp [tot1]
    | c :: r =>
      rw [he] at hdl; simp at hdl
      by_cases hq : isQ c = true
      · rw [splitL_quote he hq] at h
        match he2 : r.dropWhile (· != c) with
        | [] => rw [he2] at h; cases h
        | d :: r' =>
          rw [he2] at h
          have hd2 := congrArg List.length (List.takeWhile_append_dropWhile (p := (· != c)) (l := r))
          rw [he2, List.length_append, List.length_cons] at hd2
          simp only [Option.map_eq_some_iff] at h
          obtain ⟨g, hg, rfl⟩ := h
          have := ih r' g (by omega) hg
          simp only [tot1, List.map_cons, List.sum_cons] at this ⊢
          omega
      · have hq' : isQ c = false := by simpa using hq
        rw [splitL_bare he hq'] at h
        simp only [Option.map_eq_some_iff] at h
        obtain ⟨g, hg, rfl⟩ := h
        have hd2 := congrArg List.length (List.takeWhile_append_dropWhile (p := (!isSp ·)) (l := r))
        rw [List.length_append] at hd2
        have := ih _ g (by omega) hg
        simp only [tot1, List.map_cons, List.sum_cons, List.length_cons] at this ⊢
        omega
theorem mem_len_tot1 {ss : List Bs} {x : Bs} (h : x ∈ ss) : x.length ≤ tot1 ss := by
  induction ss with
  | nil => cases h
  | cons a l ih =>
    simp only [tot1, List.map_cons, List.sum_cons] at *
    rcases List.mem_cons.1 h with rfl | h
    · omega
    · have := ih h; omega

theorem walkFnSplitAgain (w : World) (s : ByteArray) (ws : s.size ≤ maxLen) :
    Calls Try.prog 13 #[.string s] w fun e w' => e = .returned (.bool true) ∧ Below w.heap.size w w' := by
  have wm := ws
  unfold maxLen at ws
  by_cases h1 : 2147483647 < s.size
  · go_enter Try.func13, Try.ntmps13
    go_wp2
    go_ret
    exact ⟨rfl, Below.refl _ _⟩
  by_cases h2 : 1000000 < s.size
  · go_enter Try.func13, Try.ntmps13
    go_wp2_with (go_at_call 15; refine (tooLong_yes1 _ _ (by omega) (by omega) (by omega)).mono ?_; rintro e w' ⟨rfl, rfl⟩)
    go_ret
    exact ⟨rfl, (Below.refl _ _).alloc (Nat.le_refl _) _⟩
  have hs : s.size ≤ 2147483647 := by omega
  have HB0 := Lib.hid ((Below.refl w.heap.size w).alloc (Nat.le_refl _) (.cells #[.int .i64 (s.size : Int)] 3))
  cases hf : splitL (L s) with
  | none =>
    have HF := Lib.hid hf
    clear hf
    go_enter Try.func13, Try.ntmps13
    go_wp2_with (go_at_call 15; refine (tooLong_no1 _ _ (by omega) (by omega)).mono ?_; rintro e w' ⟨rfl, rfl⟩)
    refine (implSplit_none s _ hs HF.out).mono ?_
    rintro e w1 ⟨rfl, hb1⟩
    have HB1 := Lib.hid (HB0.out.trans (hb1.mono (by simp)))
    clear hb1
    go_wp2_with fail
    refine (implSplit_a _).mono ?_
    rintro e w2 ⟨v, rfl, hr2, hb2⟩
    have HB2 := Lib.hid (HB1.out.trans (hb2.mono HB1.out.size))
    obtain ⟨ao, cap, rfl⟩ := hr2.shape
    clear hr2 hb2
    go_wp2
    go_ret
    exact ⟨rfl, HB2.out⟩
  | some fs =>
    have HF := Lib.hid hf
    have hfl : fs.length ≤ 2147483647 := splitL_len hf hs
    have ht1 : tot1 fs ≤ 2000000 := by have := splitL_tot1 _ _ _ (Nat.le_refl _) hf; rw [L_len] at this; omega
    have ht : tot fs ≤ 6000000 := by have := tot_tot1 fs; omega
    have HM : Hid (∀ x ∈ fs, x.length ≤ maxLen) := fun x hx => by have := mem_len_tot1 hx; unfold maxLen; omega
    clear hf
    go_enter Try.func13, Try.ntmps13
    go_wp2_with (go_at_call 15; refine (tooLong_no1 _ _ (by omega) (by omega)).mono ?_; rintro e w' ⟨rfl, rfl⟩)
    refine (implSplit_some s fs _ hs HF.out).mono ?_
    rintro e w1 ⟨v1, rfl, hr1, hb1⟩
    have HB1 := Lib.hid (HB0.out.trans (hb1.mono (by simp)))
    have HR1 := Lib.hid hr1
    obtain ⟨a1, c1, rfl⟩ := hr1.shape
    clear hb1 hr1
    go_wp2_with fail
    refine (implSplit_a _).mono ?_
    rintro e w2 ⟨v, rfl, hr2, hb2⟩
    have HB2 := Lib.hid (HB1.out.trans (hb2.mono HB1.out.size))
    have HR12 := Lib.hid (HR1.out.below hb2 HR1.out.blt)
    obtain ⟨ao, cap, rfl⟩ := hr2.shape
    clear hr2 hb2
    go_wp2_with fail
    refine (joinable_any a1 c1 fs _ _ HR12.out.arg hfl HM.out).mono ?_
    cases hj : joinable fs with
    | false =>
      clear hj
      rintro e w5 ⟨rfl, rfl⟩
      go_wp2
      go_ret
      exact ⟨rfl, HB2.out⟩
    | true =>
      have HJ := Lib.hid hj
      clear hj
      rintro e w5 ⟨rfl, rfl⟩
      go_wp2_with fail
      refine (implJoin_yes a1 c1 fs _ HR12.out.arg (by omega) (joinable_both HJ.out)).mono ?_
      rintro e w3 ⟨rfl, hb3⟩
      have HB3 := Lib.hid (HB2.out.trans (hb3.mono HB2.out.size))
      have HR13 := Lib.hid (HR12.out.below hb3 HR12.out.blt)
      clear hb3
      have HSP := Lib.hid (join_split fs HJ.out)
      have hjs : (mkB (joinGo fs)).size ≤ 2147483647 := by rw [size_mkB]; have := joinGo_len fs; omega
      have HLM : Hid (L (mkB (joinGo fs)) = joinGo fs) := L_mkB _
      generalize mkB (joinGo fs) = s2 at *
      go_wp2_with fail
      refine (implSplit_some s2 fs _ hjs (by rw [HLM.out]; exact HSP.out)).mono ?_
      rintro e w4 ⟨v4, rfl, hr4, hb4⟩
      have HB4 := Lib.hid (HB3.out.trans (hb4.mono HB3.out.size))
      have HR14 := Lib.hid (HR13.out.below hb4 HR13.out.blt)
      have HR4 := Lib.hid hr4
      obtain ⟨a4, c4, rfl⟩ := hr4.shape
      clear hr4 hb4
      go_wp2_with fail
      refine (sameTexts_yes _ _ _ _ _ _ fs hfl HR4.out.rd HR14.out.rd).mono ?_
      rintro e w6 ⟨rfl, mm, rfl⟩
      go_wp2
      go_ret
      exact ⟨rfl, below_drewN HB4.out _⟩
end Go.Proofs.Ytlmmhhbdibcijaa
