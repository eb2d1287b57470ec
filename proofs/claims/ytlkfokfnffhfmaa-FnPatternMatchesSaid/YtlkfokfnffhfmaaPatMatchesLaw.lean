/-
  The walk of the law FnPatternMatches. For every input.
-/
import Derived.Test.YtlkfokfnffhfmaaPatWords
import Derived.Test.YtlkfokfnffhfmaaPatMore
set_option linter.unusedVariables false
namespace Go.Proofs.Ytlkfokfnffhfmaa
open Go.RowKit Go.PlainAid

/-- what impl.Matches tells -/
def matches2 (l : Bs) (id : Int) : Bool × Bool := if l.isEmpty then (false, false) else match newL l with
  | none => (false, false)
  | some M => (matchL M.list id, true)
def MatchesPost (l : Bs) (id : Int) (w : World) (e : Ending) (w' : World) : Prop := e = .returned (.tuple #[.bool (matches2 l id).1, .bool (matches2 l id).2]) ∧ Below w.heap.size w w'
theorem t2 {a b c d : Bool} (h1 : a = c) (h2 : b = d) : Ending.returned (.tuple #[.bool a, .bool b]) = .returned (.tuple #[.bool c, .bool d]) := by rw [h1, h2]
theorem zzMatch_any (w : World) (b : Nat) (v q e : Bool) (sv : Value) (list : List Cond) (id : Int) (hm : MatAt w b v q e sv) (hr : Row w (b + 1) 3 sv list.length (condCells list)) (hl : list.length ≤ 8589934592) :
    Calls Try.prog 26 #[.pointer (some ⟨b, 0, none⟩), .int .u64 id] w (DrewBool (matchL list id) w) := by
  have HM := Lib.hid hm
  have HR := Lib.hid hr
  clear hm hr
  go_enter Try.func26, Try.ntmps26
  go_wp2_with fail
  refine (matchResult_any _ b _ _ _ _ _ _ HM.out HR.out hl).mono ?_
  rintro e w1 ⟨rfl, n, rfl⟩
  go_wp2
  go_ret
  exact ⟨rfl, n, rfl⟩
set_option maxHeartbeats 4000000 in
theorem matches_any (s : ByteArray) (id : Int) (w : World) (hs : s.size ≤ 4294967296) : Calls Try.prog 8 #[.string s, .int .u64 id] w (MatchesPost (L s) id w) := by
  go_enter Try.func8, Try.ntmps8
  go_wp2_with fail
  refine (new_any s _ hs).mono ?_
  rintro e w1 ⟨hb1, hp⟩
  have HB := Lib.hid hb1
  clear hb1
  rcases hp with ⟨h0, rfl⟩ | ⟨h0, hn, T, pv, rfl⟩ | ⟨h0, M, sv, b, hn, rfl, hb, hm, hr, hl⟩
  · have HJ : Hid (matches2 (L s) id = (false, false)) := by show _ = _; unfold matches2; rw [L_isEmpty, if_pos (decide_eq_true h0)]
    clear h0
    go_wp2
    go_ret2
    exact ⟨t2 (by rw [HJ.out]) (by rw [HJ.out]), HB.out⟩
  · have HJ : Hid (matches2 (L s) id = (false, false)) := by show _ = _; unfold matches2; rw [L_isEmpty, if_neg (by simp; intro h; rw [h] at h0; simp at h0), hn]
    clear h0 hn
    go_wp2
    go_ret2
    exact ⟨t2 (by rw [HJ.out]) (by rw [HJ.out]), HB.out⟩
  · have HJ : Hid (matches2 (L s) id = (matchL M.list id, true)) := by show _ = _; unfold matches2; rw [L_isEmpty, if_neg (by simp; intro h; rw [h] at h0; simp at h0), hn]
    have HM := Lib.hid hm
    have HR := Lib.hid hr
    have hl2 : M.list.length ≤ 8589934592 := by omega
    clear h0 hn hm hr hl
    go_wp2_with fail
    refine (zzMatch_any _ b _ _ _ _ _ _ HM.out HR.out hl2).mono ?_
    rintro e w2 ⟨rfl, n1, rfl⟩
    go_wp2
    go_ret2
    exact ⟨t2 (by rw [HJ.out]) (by rw [HJ.out]), below_drewN HB.out n1⟩
theorem matches_y (N : Nat) (hN : N < 18446744073709551616) : (matches2 [121] (N : Int)).2 = true := by
  unfold matches2; rw [isY]; rfl
theorem matches_read {l : Bs} {p : Pat} (h : ReadOk l p) (N : Nat) (hN : N < 18446744073709551616) : matches2 l (N : Int) = (holdsTo (N : Int) p.all p.terms, true) := by
  unfold matches2
  rw [read_ne h, new_read h, ← match_holds N hN p.all p.terms (read_bits h)]; rfl
set_option maxRecDepth 100000 in
set_option maxHeartbeats 4000000 in
theorem walkFnPatternMatches (w : World) (t : ByteArray) (wt : t.size ≤ maxLen) (id : Int) (wi : (Lit.int .u64 id).wf = true) :
    Calls Try.prog 3 #[.string t, .int .u64 id] w fun e w' => e = .returned (.bool true) ∧ Below w.heap.size w w' := by
  unfold maxLen at wt
  obtain ⟨N, rfl, hN⟩ := id_nat wi
  clear wi
  by_cases g0 : 2147483647 < t.size
  · go_enter Try.func3, Try.ntmps3
    go_wp2
    go_ret
    exact ⟨rfl, Below.refl _ _⟩
  by_cases gs : 1000000 < t.size
  · go_enter Try.func3, Try.ntmps3
    go_wp2_with (go_at_call 6; refine (tooLong_yes1 _ _ (by omega) (by omega) (by omega)).mono ?_; rintro e w' ⟨rfl, rfl⟩)
    go_ret
    exact ⟨rfl, (Below.refl _ _).alloc (Nat.le_refl _) _⟩
  have HB0 := Lib.hid ((Below.refl w.heap.size w).alloc (Nat.le_refl _) (.cells #[.int .i64 (t.size : Int)] 3))
  go_enter Try.func3, Try.ntmps3
  go_wp2_with (go_at_call 6; refine (tooLong_no1 _ _ (by omega) (by omega)).mono ?_; rintro e w' ⟨rfl, rfl⟩)
  refine (readPattern_any t _ (by omega)).mono ?_
  rintro e w1 ⟨⟨dis, vis, all, ts⟩, sv, ok, he, h1, h2, h3, h4, h5⟩
  dsimp only at he h1 h2 h3 h4
  subst he
  have HO := Lib.hid h1
  have HT := Lib.hid h3
  obtain ⟨ao, cap, rfl⟩ := h2.shape
  have HB1' := Lib.hid (HB0.out.trans (h5.mono HB0.out.size))
  have HB1 := Lib.hid (HB1'.out.alloc HB1'.out.size (.cells #[.bool dis, .bool vis, .bool all, .slice ao ts.length cap] 26))
  have HA1 := Lib.hid (At.new w1 #[.bool dis, .bool vis, .bool all, .slice ao ts.length cap] 26)
  have HR1 := Lib.hid (h2.alloc (.cells #[.bool dis, .bool vis, .bool all, .slice ao ts.length cap] 26))
  clear h1 h2 h3 h5 HB0 HB1'
  go_wp2_with fail
  refine (matches_any t (N : Int) _ (by omega)).mono ?_
  rintro e w2 ⟨rfl, h5⟩
  have HB2 := Lib.hid (HB1.out.trans (h5.mono HB1.out.size))
  have HA2 := Lib.hid (HA1.out.below h5)
  have HR2 := Lib.hid (HR1.out.keepAll h5)
  clear h5 HB1 HA1 HR1
  cases ok with
  | false =>
    generalize (matches2 (L t) (N : Int)).1 = m1 at *
    generalize (matches2 (L t) (N : Int)).2 = m2 at *
    go_wp2_with fail
    refine (matches_any ⟨#[121]⟩ (N : Int) _ (by decide)).mono ?_
    rintro e w3 ⟨rfl, h5⟩
    have HB3 := Lib.hid (HB2.out.trans (h5.mono HB2.out.size))
    clear h5 HB2
    rw [show L ⟨#[121]⟩ = [121] from rfl, matches_y N hN]
    go_wp2
    go_ret
    exact ⟨rfl, HB3.out⟩
  | true =>
    have hj := judge_read (HO.out rfl) N hN
    have hm := matches_read (HO.out rfl) N hN
    obtain ⟨g, HG⟩ : ∃ g, Hid (holdsTo (N : Int) all ts = g) := ⟨_, rfl⟩
    simp only [HG.out] at hj hm
    have HJ := Lib.hid hj
    rw [hm]
    clear hm hj
    obtain ⟨a0, a1, a2, a3⟩ := HA2.out.four
    go_wp2_with fail
    refine (holds_any (N : Int) _ _ _ _ ts _ _ HR2.out HT.out (by omega) (by omega) (by omega)).mono ?_
    rintro e w3 ⟨rfl, h5⟩
    have HB3 := Lib.hid (HB2.out.trans (h5.mono HB2.out.size))
    clear h5 HB2 a0 a1 a2 a3 HA2 HR2
    rw [HG.out]
    go_wp2_with fail
    refine (judge_any t (N : Int) _ (by omega)).mono ?_
    rintro e w4 ⟨rfl, h5⟩
    have HB4 := Lib.hid (HB3.out.trans (h5.mono HB3.out.size))
    clear h5 HB3
    rw [HJ.out, Verd.V]
    have hf := @field3
    cases g
    all_goals
      go_wp2
      go_ret
      exact ⟨rfl, HB4.out⟩
end Go.Proofs.Ytlkfokfnffhfmaa
