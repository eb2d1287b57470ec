/-
  The contracts of impl.Judge and laws.works. For every text of at most 4294967296 bytes.
-/
import Derived.Test.YtnjdckhaecdldaaNew
import Derived.Test.YtnjdckhaecdldaaMatch
set_option linter.unusedVariables false
namespace Go.Proofs.Ytnjdckhaecdldaa
open Go.RowKit Go.PlainAid Go.Lib

structure Verd where
  known : Bool
  none : Bool
  enable : Bool
  print : Bool
  only : Bool
deriving DecidableEq
def Verd.V (v : Verd) : Value := .agg #[.bool v.known, .bool v.none, .bool v.enable, .bool v.print, .bool v.only]
/-- what a pattern tells of a change -/
def judge (l : Bs) (id : Int) : Verd :=
  if l.isEmpty then ⟨true, true, true, false, false⟩ else match newL l with
    | .none => ⟨false, false, false, false, false⟩
    | some M => ⟨true, false, matchL M.list id == M.enable, !M.quiet && matchL M.list id, !M.verbose⟩
def JudgePost (l : Bs) (id : Int) (w : World) (e : Ending) (w' : World) : Prop := e = .returned (judge l id).V ∧ Below w.heap.size w w'

/-- the result's cells behind a call -/
theorem res5 (w : World) (t : TypeId) (w1 : World) (hb : Below (w.alloc (.cells #[.bool false, .bool false, .bool false, .bool false, .bool false] t)).heap.size (w.alloc (.cells #[.bool false, .bool false, .bool false, .bool false, .bool false] t)) w1) :
    w1.cell? ⟨w.heap.size, 0, none⟩ = some (.bool false) ∧ w1.cell? ⟨w.heap.size, 1, none⟩ = some (.bool false) ∧ w1.cell? ⟨w.heap.size, 2, none⟩ = some (.bool false) ∧ w1.cell? ⟨w.heap.size, 3, none⟩ = some (.bool false) ∧ w1.cell? ⟨w.heap.size, 4, none⟩ = some (.bool false) ∧
    w1.frozen? ⟨w.heap.size, 0, none⟩ = false ∧ w1.frozen? ⟨w.heap.size, 1, none⟩ = false ∧ w1.frozen? ⟨w.heap.size, 2, none⟩ = false ∧ w1.frozen? ⟨w.heap.size, 3, none⟩ = false ∧ w1.frozen? ⟨w.heap.size, 4, none⟩ = false := by
  have hlt : w.heap.size < (w.alloc (.cells #[.bool false, .bool false, .bool false, .bool false, .bool false] t)).heap.size := by simp
  have c : ∀ k, w1.cell? ⟨w.heap.size, k, none⟩ = _ := fun k => hb.cell (p := ⟨w.heap.size, k, none⟩) hlt
  have f : ∀ k, w1.frozen? ⟨w.heap.size, k, none⟩ = _ := fun k => hb.frozen (p := ⟨w.heap.size, k, none⟩) hlt
  refine ⟨?_, ?_, ?_, ?_, ?_, ?_, ?_, ?_, ?_, ?_⟩
  iterate 5 (rw [c, World.cell?_alloc_new]; rfl)
  all_goals rw [f, World.frozen?_alloc_new]
set_option maxHeartbeats 4000000 in
theorem judge_any (s : ByteArray) (id : Int) (w : World) (hs : s.size ≤ 4294967296) : Calls Try.prog 14 #[.string s, .int .u64 id] w (JudgePost (L s) id w) := by
  go_enter Try.func14, Try.ntmps14
  go_wp2_with fail
  refine (new_any s _ hs).mono ?_
  rintro e w1 ⟨hb1, hp⟩
  rcases hp with ⟨h0, rfl⟩ | ⟨h0, hn, T, pv, rfl⟩ | ⟨h0, M, sv, b, hn, rfl, hb, hm, hr, hl⟩
  · have HB := Lib.hid ((below_new w _).trans (hb1.mono (by simp)))
    have HJ : Hid (judge (L s) id = ⟨true, true, true, false, false⟩) := by show _ = _; unfold judge; rw [L_isEmpty, if_pos (decide_eq_true h0)]
    obtain ⟨c0, c1, c2, c3, c4, f0, f1, f2, f3, f4⟩ := res5 w 35 w1 hb1
    clear hb1 h0
    go_wp2_with fail
    refine (shouldEnable_nil _ _).mono ?_
    rintro e w2 ⟨rfl, rfl⟩
    go_wp2_with fail
    refine (shouldPrint_nil _ _).mono ?_
    rintro e w2 ⟨rfl, rfl⟩
    go_wp2_with fail
    refine bodyPost_ret (v := (judge (L s) id).V) (by rw [HJ.out]; simp [results, Try.results14, go_sem, Verd.V, c0, c1, c2, c3, c4]) rfl ⟨rfl, ?_⟩
    exact ((((HB.out.setCell (p := ⟨w.heap.size, 0, none⟩) (Nat.le_refl _) _).setCell (p := ⟨w.heap.size, 1, none⟩) (Nat.le_refl _) _).setCell (p := ⟨w.heap.size, 2, none⟩) (Nat.le_refl _) _).setCell (p := ⟨w.heap.size, 3, none⟩) (Nat.le_refl _) _).setCell (p := ⟨w.heap.size, 4, none⟩) (Nat.le_refl _) _
  · have HB := Lib.hid ((below_new w _).trans (hb1.mono (by simp)))
    have HJ : Hid (judge (L s) id = ⟨false, false, false, false, false⟩) := by show _ = _; unfold judge; rw [L_isEmpty, if_neg (by simp; intro h; rw [h] at h0; simp at h0), hn]
    obtain ⟨c0, c1, c2, c3, c4, f0, f1, f2, f3, f4⟩ := res5 w 35 w1 hb1
    clear hb1 h0 hn
    go_wp2_with fail
    refine bodyPost_ret (v := (judge (L s) id).V) (by rw [HJ.out]; simp [results, Try.results14, go_sem, Verd.V, c0, c1, c2, c3, c4]) rfl ⟨rfl, ?_⟩
    exact ((((HB.out.setCell (p := ⟨w.heap.size, 0, none⟩) (Nat.le_refl _) _).setCell (p := ⟨w.heap.size, 1, none⟩) (Nat.le_refl _) _).setCell (p := ⟨w.heap.size, 2, none⟩) (Nat.le_refl _) _).setCell (p := ⟨w.heap.size, 3, none⟩) (Nat.le_refl _) _).setCell (p := ⟨w.heap.size, 4, none⟩) (Nat.le_refl _) _
  · have HB := Lib.hid ((below_new w _).trans (hb1.mono (by simp)))
    have HJ : Hid (judge (L s) id = ⟨true, false, matchL M.list id == M.enable, !M.quiet && matchL M.list id, !M.verbose⟩) := by show _ = _; unfold judge; rw [L_isEmpty, if_neg (by simp; intro h; rw [h] at h0; simp at h0), hn]
    obtain ⟨c0, c1, c2, c3, c4, f0, f1, f2, f3, f4⟩ := res5 w 35 w1 hb1
    have HM := Lib.hid hm
    have HR := Lib.hid hr
    have hl2 : M.list.length ≤ 8589934592 := by omega
    clear hb1 h0 hn hm hr hl
    go_wp2_with fail
    refine (shouldEnable_any _ b _ _ _ _ _ _ HM.out HR.out hl2).mono ?_
    rintro e w2 ⟨rfl, n1, rfl⟩
    go_wp2_with fail
    refine (shouldPrint_any _ b _ _ _ _ _ _ (HM.out.drewN n1) (HR.out.drewN n1) hl2).mono ?_
    rintro e w2 ⟨rfl, n2, rfl⟩
    go_wp2_with fail
    refine (markerOnly_any _ b _ _ _ _ (HM.out.drewN (n1 + n2))).mono ?_
    rintro e w2 ⟨rfl, rfl⟩
    go_wp2_with fail
    clear HM HR
    have HB := Lib.hid (below_drewN HB.out (n1 + n2))
    refine bodyPost_ret (v := (judge (L s) id).V) (by rw [HJ.out]; simp [results, Try.results14, go_sem, Verd.V, c0, c1, c2, c3, c4]) rfl ⟨rfl, ?_⟩
    exact ((((HB.out.setCell (p := ⟨w.heap.size, 0, none⟩) (Nat.le_refl _) _).setCell (p := ⟨w.heap.size, 1, none⟩) (Nat.le_refl _) _).setCell (p := ⟨w.heap.size, 2, none⟩) (Nat.le_refl _) _).setCell (p := ⟨w.heap.size, 3, none⟩) (Nat.le_refl _) _).setCell (p := ⟨w.heap.size, 4, none⟩) (Nat.le_refl _) _
theorem isY : newL [121] = some ⟨false, false, true, [⟨0, 0, true⟩]⟩ := by rfl
theorem judge_y (id : Int) : judge [121] id = ⟨true, false, true, true, true⟩ := by
  have h : matchL [⟨0, 0, true⟩] id = true := by simp [matchL, matchTo, condB, bits]; rfl
  simp [judge, isY, h]
theorem works_any (w : World) : Calls Try.prog 11 #[] w fun e w' => e = .returned (.bool true) ∧ Below w.heap.size w w' := by
  go_enter Try.func11, Try.ntmps11
  go_wp2_with fail
  refine (judge_any ⟨#[121]⟩ 5 _ (by decide)).mono ?_
  rintro e w1 ⟨rfl, hb⟩
  have HB := Lib.hid hb
  clear hb
  rw [show L ⟨#[121]⟩ = [121] from rfl, judge_y, Verd.V]
  go_wp2
  go_ret
  exact ⟨rfl, HB.out.alloc HB.out.size _⟩
end Go.Proofs.Ytnjdckhaecdldaa
