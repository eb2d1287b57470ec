/-
  The contract of impl.ConditionsOf: the conditions of a pattern, and whether it is one and not empty. For every text of at most 4294967296 bytes.
-/
import Derived.Test.YtnjdckhaecdldaaZZCond
import Derived.Test.YtnjdckhaecdldaaJudge
import Derived.Test.YtnjdckhaecdldaaRead
set_option linter.unusedVariables false
namespace Go.Proofs.Ytnjdckhaecdldaa
open Go.RowKit Go.PlainAid Go.Lib

def CondsPost (s : ByteArray) (w : World) (e : Ending) (w' : World) : Prop :=
  Below w.heap.size w w' ∧ ∃ a1 n1 q1 a2 n2 q2 a3 n3 q3 vis en ok, e = .returned (.tuple #[.agg #[.slice a1 n1 q1, .slice a2 n2 q2, .slice a3 n3 q3, .bool vis, .bool en], .bool ok]) ∧
    (∀ M, newL (L s) = some M → 0 < s.size → ok = true ∧ vis = M.verbose ∧ en = M.enable ∧ M.list.length ≤ 8589934592 ∧ n1 = M.list.length ∧ n2 = M.list.length ∧ n3 = M.list.length ∧
      Row w' w.heap.size 1 (.slice a1 n1 q1) M.list.length (maskC M.list) ∧ Row w' w.heap.size 1 (.slice a2 n2 q2) M.list.length (bitC M.list) ∧ Row w' w.heap.size 1 (.slice a3 n3 q3) M.list.length (resC M.list))
theorem cond5 (w : World) (t : TypeId) (w1 : World) (hb : Below (w.alloc (.cells #[.slice none 0 0, .slice none 0 0, .slice none 0 0, .bool false, .bool false] t)).heap.size (w.alloc (.cells #[.slice none 0 0, .slice none 0 0, .slice none 0 0, .bool false, .bool false] t)) w1) :
    w1.cell? ⟨w.heap.size, 0, none⟩ = some (.slice none 0 0) ∧ w1.cell? ⟨w.heap.size, 1, none⟩ = some (.slice none 0 0) ∧ w1.cell? ⟨w.heap.size, 2, none⟩ = some (.slice none 0 0) ∧ w1.cell? ⟨w.heap.size, 3, none⟩ = some (.bool false) ∧ w1.cell? ⟨w.heap.size, 4, none⟩ = some (.bool false) ∧
    w1.frozen? ⟨w.heap.size, 0, none⟩ = false ∧ w1.frozen? ⟨w.heap.size, 1, none⟩ = false ∧ w1.frozen? ⟨w.heap.size, 2, none⟩ = false ∧ w1.frozen? ⟨w.heap.size, 3, none⟩ = false ∧ w1.frozen? ⟨w.heap.size, 4, none⟩ = false := by
  have c : ∀ k, w1.cell? ⟨w.heap.size, k, none⟩ = _ := fun k => hb.cell (p := ⟨w.heap.size, k, none⟩) (by simp)
  have f : ∀ k, w1.frozen? ⟨w.heap.size, k, none⟩ = _ := fun k => hb.frozen (p := ⟨w.heap.size, k, none⟩) (by simp)
  refine ⟨?_, ?_, ?_, ?_, ?_, ?_, ?_, ?_, ?_, ?_⟩
  iterate 5 (rw [c, World.cell?_alloc_new]; rfl)
  all_goals rw [f, World.frozen?_alloc_new]
def zeroC : Value := .agg #[.slice none 0 0, .slice none 0 0, .slice none 0 0, .bool false, .bool false]
theorem below5 {W w : World} {g : Nat} (h : Below W.heap.size W w) (hg : W.heap.size ≤ g) (x0 x1 x2 x3 x4 : Value) :
    Below W.heap.size W (((((w.setCell ⟨g, 0, none⟩ x0).setCell ⟨g, 1, none⟩ x1).setCell ⟨g, 2, none⟩ x2).setCell ⟨g, 3, none⟩ x3).setCell ⟨g, 4, none⟩ x4) :=
  ((((h.setCell (p := ⟨g, 0, none⟩) hg _).setCell (p := ⟨g, 1, none⟩) hg _).setCell (p := ⟨g, 2, none⟩) hg _).setCell (p := ⟨g, 3, none⟩) hg _).setCell (p := ⟨g, 4, none⟩) hg _
theorem row5 {w : World} {B g n : Nat} {v : Value} {xs : List Value} (h : Row w B 1 v n xs) (hg : g < B) (x0 x1 x2 x3 x4 : Value) :
    Row (((((w.setCell ⟨g, 0, none⟩ x0).setCell ⟨g, 1, none⟩ x1).setCell ⟨g, 2, none⟩ x2).setCell ⟨g, 3, none⟩ x3).setCell ⟨g, 4, none⟩ x4) B 1 v n xs := by
  have hne : v.ownBlock ≠ some g := fun e => by have := h.blk g e; omega
  exact ((((h.setCell (p := ⟨g, 0, none⟩) hne _).setCell (p := ⟨g, 1, none⟩) hne _).setCell (p := ⟨g, 2, none⟩) hne _).setCell (p := ⟨g, 3, none⟩) hne _).setCell (p := ⟨g, 4, none⟩) hne _
set_option maxHeartbeats 4000000 in
set_option maxRecDepth 100000 in
theorem condsOf_any (s : ByteArray) (w : World) (hs : s.size ≤ 4294967296) : Calls Try.prog 17 #[.string s] w (CondsPost s w) := by
  go_enter Try.func17, Try.ntmps17
  go_wp2_with fail
  refine (new_any s _ hs).mono ?_
  rintro e w1 ⟨hb1, hp⟩
  rcases hp with ⟨h0, rfl⟩ | ⟨h0, hn, T, pv, rfl⟩ | ⟨h0, M, sv, b, hn, rfl, hb, hm, hr, hl⟩
  · have HB := Lib.hid ((below_new w _).trans (hb1.mono (by simp)))
    obtain ⟨c0, c1, c2, c3, c4, f0, f1, f2, f3, f4⟩ := cond5 w 44 w1 hb1
    clear hb1
    have H0 := Lib.hid h0
    clear h0
    go_wp2_with fail
    refine bodyPost_ret (v := .tuple #[zeroC, .bool false]) (by simp [results, Try.results17, go_sem, zeroC, c0, c1, c2, c3, c4]) rfl ⟨below5 HB.out (Nat.le_refl _) _ _ _ _ _, _, _, _, _, _, _, _, _, _, _, _, _, rfl, fun M _ h => ?_⟩
    have := H0.out; omega
  · have HB := Lib.hid ((below_new w _).trans (hb1.mono (by simp)))
    have HN := Lib.hid hn
    obtain ⟨c0, c1, c2, c3, c4, f0, f1, f2, f3, f4⟩ := cond5 w 44 w1 hb1
    clear hb1 h0 hn
    go_wp2_with fail
    refine bodyPost_ret (v := .tuple #[zeroC, .bool false]) (by simp [results, Try.results17, go_sem, zeroC, c0, c1, c2, c3, c4]) rfl ⟨below5 HB.out (Nat.le_refl _) _ _ _ _ _, _, _, _, _, _, _, _, _, _, _, _, _, rfl, fun M h _ => ?_⟩
    rw [HN.out] at h; cases h
  · have HB := Lib.hid ((below_new w _).trans (hb1.mono (by simp)))
    have HN := Lib.hid hn
    have hgl : w.heap.size < w1.heap.size := by have := hb1.size; simp at this; omega
    obtain ⟨c0, c1, c2, c3, c4, f0, f1, f2, f3, f4⟩ := cond5 w 44 w1 hb1
    have HM := Lib.hid hm
    have HR := Lib.hid hr
    have hl2 : M.list.length ≤ 8589934592 := by omega
    have HGL := Lib.hid hgl
    clear hb1 h0 hn hm hr hl hb hgl
    go_wp2_with fail
    refine (zzConditions_any _ b _ _ _ _ _ HM.out HR.out hl2).mono ?_
    rintro e w2 ⟨mv, bv, rv, rfl, r1, r2, r3, hb2⟩
    have HB2 := Lib.hid (HB.out.trans (hb2.mono HB.out.size))
    have k : ∀ j, w2.cell? ⟨w.heap.size, j, none⟩ = w1.cell? ⟨w.heap.size, j, none⟩ := fun j => hb2.cell (p := ⟨w.heap.size, j, none⟩) HGL.out
    have kf : ∀ j, w2.frozen? ⟨w.heap.size, j, none⟩ = w1.frozen? ⟨w.heap.size, j, none⟩ := fun j => hb2.frozen (p := ⟨w.heap.size, j, none⟩) HGL.out
    have d0 := (k 0).trans c0
    have d1 := (k 1).trans c1
    have d2 := (k 2).trans c2
    have d3 := (k 3).trans c3
    have d4 := (k 4).trans c4
    have e0 := (kf 0).trans f0
    have e1 := (kf 1).trans f1
    have e2 := (kf 2).trans f2
    have e3 := (kf 3).trans f3
    have e4 := (kf 4).trans f4
    obtain ⟨a1, q1, rfl⟩ := r1.shape
    obtain ⟨a2, q2, rfl⟩ := r2.shape
    obtain ⟨a3, q3, rfl⟩ := r3.shape
    have R1 := Lib.hid r1
    have R2 := Lib.hid r2
    have R3 := Lib.hid r3
    have HL := Lib.hid hl2
    clear k kf c0 c1 c2 c3 c4 f0 f1 f2 f3 f4 r1 r2 r3 hb2 HM HR
    go_wp2_with fail
    refine bodyPost_ret (v := .tuple #[.agg #[.slice a1 M.list.length q1, .slice a2 M.list.length q2, .slice a3 M.list.length q3, .bool M.verbose, .bool M.enable], .bool true]) (by simp [results, Try.results17, go_sem, d0, d1, d2, d3, d4]) rfl ⟨below5 HB2.out (Nat.le_refl _) _ _ _ _ _, _, _, _, _, _, _, _, _, _, _, _, _, rfl, fun M2 h _ => ?_⟩
    obtain rfl : M2 = M := Option.some.inj (h.symm.trans HN.out)
    have hle := HB.out.size
    exact ⟨rfl, rfl, rfl, HL.out, rfl, rfl, rfl, (row5 R1.out HGL.out _ _ _ _ _).mono hle, (row5 R2.out HGL.out _ _ _ _ _).mono hle, (row5 R3.out HGL.out _ _ _ _ _).mono hle⟩
end Go.Proofs.Ytnjdckhaecdldaa
