/-
  The contracts of (*quoted.Flag).Set and impl.FlagSet, and the walk of the law FnFlagSet. For every input.
-/
import Derived.Test.YtlmmhhbdibcijaaSplitLaws
namespace Go.Proofs.Ytlmmhhbdibcijaa
open Go.RowKit Go.PlainAid

/-- what (*Flag).Set leaves: the flag lies in block g -/
def SetPost (s : ByteArray) (g : Nat) (w : World) (e : Ending) (w' : World) : Prop :=
  match splitL (L s) with
    | none => (∃ T p, e = .returned (.iface T p)) ∧ Below w.heap.size w w'
    | some fs => e = .returned .nilIface ∧ ∃ w1 a, w' = w1.setCell ⟨g, 0, none⟩ (.slice a fs.length fs.length) ∧ Below w.heap.size w w1 ∧ ∃ c, Row w1 w.heap.size 1 (.slice a fs.length c) fs.length (fs.map S)
theorem flagSet_any (s : ByteArray) (hs : s.size ≤ 2147483647) (g : Nat) (w : World) (u : Value) (hg : w.heap[g]? = some (.cells #[u] 49 (0, 0))) :
    Calls Try.prog 33 #[.pointer (some ⟨g, 0, none⟩), .string s] w (SetPost s g w) := by
  have hlt : g < w.heap.size := by
    rcases Nat.lt_or_ge g w.heap.size with h | h
    · exact h
    · rw [Array.getElem?_eq_none h] at hg; cases hg
  have HG := Lib.hid hg
  have HL := Lib.hid hlt
  clear hg hlt
  go_enter Try.func33, Try.ntmps33
  go_wp2_with fail
  refine (split_any s _ hs).mono ?_
  intro e w1 hp
  cases hf : splitL (L s) with
  | none =>
    unfold SplitPost at hp
    rw [hf] at hp
    obtain ⟨hb, T, p, rfl⟩ := hp
    have HB := Lib.hid hb
    have HF := Lib.hid hf
    clear hb hf
    go_wp2
    go_ret
    unfold SetPost
    rw [HF.out]
    exact ⟨⟨_, _, rfl⟩, HB.out⟩
  | some fs =>
    unfold SplitPost at hp
    rw [hf] at hp
    obtain ⟨hb, v, rfl, hr⟩ := hp
    have hfl := splitL_len hf hs
    have HB := Lib.hid hb
    have HF := Lib.hid hf
    have HR := Lib.hid hr
    obtain ⟨_, _, a, c, rfl, hle, hcm, _⟩ := hr
    have hg1 := (hb.block g HL.out).trans HG.out
    have hc1 : w1.cell? ⟨g, 0, none⟩ = some u := cell_of_row w1 g 0 _ _ _ hg1
    have hf1 := frozen_of_row w1 g 0 _ _ hg1
    clear hb hf hg1
    unfold maxLen at hcm
    go_wp2
    go_ret
    unfold SetPost
    rw [HF.out]
    exact ⟨rfl, w1, a, rfl, HB.out, c, HR.out⟩
theorem row_shrink {w : World} {B n c : Nat} {a : Option Addr} {xs : List Value} (h : Row w B 1 (.slice a n c) n xs) : Row w B 1 (.slice a n n) n xs := by
  obtain ⟨h1, h2, ao, cap, e, hle, hcm, hg⟩ := h
  simp only [Value.slice.injEq] at e
  obtain ⟨rfl, _, rfl⟩ := e
  refine ⟨h1, by cases a <;> exact h2, a, n, rfl, Nat.le_refl _, Nat.le_trans hle hcm, fun hn => ?_⟩
  obtain ⟨g, o, r1, r2, r3, r4, _⟩ := hg (by omega)
  exact ⟨g, o, r1, r2, r3, r4, fun j h1 h2 => absurd h2 (by omega)⟩
def FlagPost (fs : List Bs) (w : World) (e : Ending) (w' : World) : Prop := ∃ v, e = .returned (.tuple #[v, .bool true]) ∧ Row w' w.heap.size 1 v fs.length (fs.map S) ∧ Below w.heap.size w w'
theorem implFlag_some (s : ByteArray) (fs : List Bs) (w : World) (hs : s.size ≤ 2147483647) (hf : splitL (L s) = some fs) : Calls Try.prog 28 #[.string s] w (FlagPost fs w) := by
  have HF := Lib.hid hf
  clear hf
  have HB0 := Lib.hid (((Below.refl w.heap.size w).alloc (Nat.le_refl _) (.cells #[] 9)).alloc (by simp) (.cells #[.slice (some ⟨w.heap.size, 0, none⟩) 0 0] 49))
  go_enter Try.func28, Try.ntmps28
  go_wp2_with fail
  refine (flagSet_any s hs (w.heap.size + 1) _ (.slice (some ⟨w.heap.size, 0, none⟩) 0 0) (by have := heap_alloc_new (w.alloc (.cells #[] 9)) (.cells #[.slice (some ⟨w.heap.size, 0, none⟩) 0 0] 49); simpa using this)).mono ?_
  intro e w1 hp
  unfold SetPost at hp
  rw [HF.out] at hp
  obtain ⟨rfl, w2, a, rfl, hb2, c, hr2⟩ := hp
  have hb3 : Below w.heap.size w w2 := HB0.out.trans (hb2.mono (by simp; omega))
  have hsz : w.heap.size + 2 ≤ w2.heap.size := by have := hb2.size; simp at this; omega
  have hg2 : w2.heap[w.heap.size + 1]? = some (.cells #[.slice (some ⟨w.heap.size, 0, none⟩) 0 0] 49 (0, 0)) := by
    have := hb2.block (w.heap.size + 1) (by simp)
    rw [this]
    have := heap_alloc_new (w.alloc (.cells #[] 9)) (.cells #[.slice (some ⟨w.heap.size, 0, none⟩) 0 0] 49)
    simpa using this
  have hcell : (w2.setCell ⟨w.heap.size + 1, 0, none⟩ (.slice a fs.length fs.length)).cell? ⟨w.heap.size + 1, 0, none⟩ = some (.slice a fs.length fs.length) :=
    World.cell?_setCell_same w2 ⟨w.heap.size + 1, 0, none⟩ _ (cell_of_row w2 _ 0 _ _ _ hg2)
  have hrow : Row (w2.setCell ⟨w.heap.size + 1, 0, none⟩ (.slice a fs.length fs.length)) w.heap.size 1 (.slice a fs.length fs.length) fs.length (fs.map S) :=
    ((row_shrink hr2).mono (by simp; omega)).setCell (fun e => by have := (row_shrink hr2).blk _ e; simp at this; omega) _
  have HROW := Lib.hid hrow
  have HB3 := Lib.hid (hb3.setCell (p := ⟨w.heap.size + 1, 0, none⟩) (by show w.heap.size ≤ w.heap.size + 1; omega) (.slice a fs.length fs.length))
  generalize w2.setCell ⟨w.heap.size + 1, 0, none⟩ (.slice a fs.length fs.length) = w3 at *
  clear hrow hb3 hg2 hsz hr2 hb2
  go_wp2
  go_quiet (fail)
  go_wp2
  go_ret2
  exact ⟨_, rfl, HROW.out, below_drewN HB3.out _⟩
theorem implFlag_none (s : ByteArray) (w : World) (hs : s.size ≤ 2147483647) (hf : splitL (L s) = none) : Calls Try.prog 28 #[.string s] w fun e w' => (∃ v, e = .returned (.tuple #[v, .bool false])) ∧ Below w.heap.size w w' := by
  have HF := Lib.hid hf
  clear hf
  have HB0 := Lib.hid (((Below.refl w.heap.size w).alloc (Nat.le_refl _) (.cells #[] 9)).alloc (by simp) (.cells #[.slice (some ⟨w.heap.size, 0, none⟩) 0 0] 49))
  go_enter Try.func28, Try.ntmps28
  go_wp2_with fail
  refine (flagSet_any s hs (w.heap.size + 1) _ (.slice (some ⟨w.heap.size, 0, none⟩) 0 0) (by have := heap_alloc_new (w.alloc (.cells #[] 9)) (.cells #[.slice (some ⟨w.heap.size, 0, none⟩) 0 0] 49); simpa using this)).mono ?_
  intro e w1 hp
  unfold SetPost at hp
  rw [HF.out] at hp
  obtain ⟨⟨T, p, rfl⟩, hb2⟩ := hp
  have hb3 : Below w.heap.size w w1 := HB0.out.trans (hb2.mono (by simp; omega))
  have hg2 : w1.heap[w.heap.size + 1]? = some (.cells #[.slice (some ⟨w.heap.size, 0, none⟩) 0 0] 49 (0, 0)) := by
    have := hb2.block (w.heap.size + 1) (by simp)
    rw [this]
    have := heap_alloc_new (w.alloc (.cells #[] 9)) (.cells #[.slice (some ⟨w.heap.size, 0, none⟩) 0 0] 49)
    simpa using this
  have hcell : w1.cell? ⟨w.heap.size + 1, 0, none⟩ = some (.slice (some ⟨w.heap.size, 0, none⟩) 0 0) := cell_of_row w1 _ 0 _ _ _ hg2
  have HB3 := Lib.hid hb3
  clear hb3 hg2 hb2
  go_wp2
  go_quiet (fail)
  go_wp2
  go_ret2
  exact ⟨⟨_, rfl⟩, below_drewN HB3.out _⟩
theorem implFlag_a (w : World) : Calls Try.prog 28 #[.string ⟨#[97]⟩] w (FlagPost [[97]] w) := implFlag_some _ _ w (by decide) split_a

theorem walkFnFlagSet (w : World) (s : ByteArray) (ws : s.size ≤ maxLen) :
    Calls Try.prog 10 #[.string s] w fun e w' => e = .returned (.bool true) ∧ Below w.heap.size w w' := by
  have wm := ws
  unfold maxLen at ws
  by_cases h1 : 2147483647 < s.size
  · go_enter Try.func10, Try.ntmps10
    go_wp2
    go_ret
    exact ⟨rfl, Below.refl _ _⟩
  by_cases h2 : 1000000 < s.size
  · go_enter Try.func10, Try.ntmps10
    go_wp2_with (go_at_call 15; refine (tooLong_yes1 _ _ (by omega) (by omega) (by omega)).mono ?_; rintro e w' ⟨rfl, rfl⟩)
    go_ret
    exact ⟨rfl, (Below.refl _ _).alloc (Nat.le_refl _) _⟩
  have hs : s.size ≤ 2147483647 := by omega
  have HB0 := Lib.hid ((Below.refl w.heap.size w).alloc (Nat.le_refl _) (.cells #[.int .i64 (s.size : Int)] 3))
  cases hf : splitL (L s) with
  | none =>
    have HF := Lib.hid hf
    clear hf
    go_enter Try.func10, Try.ntmps10
    go_wp2_with (go_at_call 15; refine (tooLong_no1 _ _ (by omega) (by omega)).mono ?_; rintro e w' ⟨rfl, rfl⟩)
    refine (implSplit_none s _ hs HF.out).mono ?_
    rintro e w1 ⟨rfl, hb1⟩
    have HB1 := Lib.hid (HB0.out.trans (hb1.mono (by simp)))
    clear hb1
    go_wp2_with fail
    refine (implFlag_none s _ hs HF.out).mono ?_
    rintro e w2 ⟨⟨v2, rfl⟩, hb2⟩
    have HB2 := Lib.hid (HB1.out.trans (hb2.mono HB1.out.size))
    clear hb2
    go_wp2_with fail
    refine (implFlag_a _).mono ?_
    rintro e w3 ⟨v, rfl, hr3, hb3⟩
    have HB3 := Lib.hid (HB2.out.trans (hb3.mono HB2.out.size))
    obtain ⟨ao, cap, rfl⟩ := hr3.shape
    clear hr3 hb3
    go_wp2
    go_ret
    exact ⟨rfl, HB3.out⟩
  | some fs =>
    have HF := Lib.hid hf
    have hfl : fs.length ≤ 2147483647 := splitL_len hf hs
    clear hf
    go_enter Try.func10, Try.ntmps10
    go_wp2_with (go_at_call 15; refine (tooLong_no1 _ _ (by omega) (by omega)).mono ?_; rintro e w' ⟨rfl, rfl⟩)
    refine (implSplit_some s fs _ hs HF.out).mono ?_
    rintro e w1 ⟨v1, rfl, hr1, hb1⟩
    have HB1 := Lib.hid (HB0.out.trans (hb1.mono (by simp)))
    have HR1 := Lib.hid hr1
    obtain ⟨a1, c1, rfl⟩ := hr1.shape
    clear hb1 hr1
    go_wp2_with fail
    refine (implFlag_some s fs _ hs HF.out).mono ?_
    rintro e w2 ⟨v2, rfl, hr2, hb2⟩
    have HB2 := Lib.hid (HB1.out.trans (hb2.mono HB1.out.size))
    have HR12 := Lib.hid (HR1.out.below hb2 HR1.out.blt)
    have HR2 := Lib.hid hr2
    obtain ⟨a2, c2, rfl⟩ := hr2.shape
    clear hb2 hr2
    go_wp2_with fail
    refine (implFlag_a _).mono ?_
    rintro e w3 ⟨v, rfl, hr3, hb3⟩
    have HB3 := Lib.hid (HB2.out.trans (hb3.mono HB2.out.size))
    have HR13 := Lib.hid (HR12.out.below hb3 HR12.out.blt)
    have HR23 := Lib.hid (HR2.out.below hb3 HR2.out.blt)
    obtain ⟨ao, cap, rfl⟩ := hr3.shape
    clear hr3 hb3
    go_wp2_with fail
    refine (sameTexts_yes _ _ _ _ _ _ fs hfl HR23.out.rd HR13.out.rd).mono ?_
    rintro e w6 ⟨rfl, mm, rfl⟩
    go_wp2
    go_ret
    exact ⟨rfl, below_drewN HB3.out _⟩
end Go.Proofs.Ytlmmhhbdibcijaa
