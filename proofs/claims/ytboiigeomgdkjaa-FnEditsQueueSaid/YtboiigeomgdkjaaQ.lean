/-
  Rows of edits in a block of the call's own, and the contracts of the methods Len, Less and Swap. For every row.
-/
import Derived.Test.YtboiigeomgdkjaaProg
import Derived.Test.YtboiigeomgdkjaaEditPlain
import Derived.Test.YtboiigeomgdkjaaRow
import Derived.Lib.Hide
import Derived.Outline
import Derived.Deep.QuietTactic
import Derived.BigQuiet
set_option linter.unusedVariables false
set_option maxHeartbeats 1000000
set_option maxRecDepth 100000
namespace Go.Proofs.Ytboiigeomgdkjaa
open Go.RowKit Go.PlainAid Go.Lib

def Q (w : World) (b o n : Nat) (f : Nat → St) : Prop := b < w.heap.size ∧ ∀ i, i < n →
  w.cell? ⟨b, o + i * 3, none⟩ = some (.int .i64 (f i).1) ∧ w.cell? ⟨b, o + i * 3 + 1, none⟩ = some (.int .i64 (f i).2.1) ∧ w.cell? ⟨b, o + i * 3 + 2, none⟩ = some (.string (f i).2.2) ∧
  w.frozen? ⟨b, o + i * 3, none⟩ = false ∧ w.frozen? ⟨b, o + i * 3 + 1, none⟩ = false ∧ w.frozen? ⟨b, o + i * 3 + 2, none⟩ = false
section
variable {w w' : World} {b o n : Nat} {f : Nat → St}
theorem Q.drew (h : Q w b o n f) : Q w.drew b o n f := h
theorem Q.drewN (h : Q w b o n f) (m : Nat) : Q (w.drewN m) b o n f := h
theorem Q.congr (h : Q w b o n f) {g : Nat → St} (he : ∀ k, k < n → g k = f k) : Q w b o n g := ⟨h.1, fun i hi => by rw [he i hi]; exact h.2 i hi⟩
end
/-- w' is w but for block b, which keeps its shape -/
def GB (w w' : World) (b : Nat) : Prop := w.grownBy w' (some b) ∧ ∀ cur e fr, w.heap[b]? = some (.cells cur e fr) → ∃ cur', w'.heap[b]? = some (.cells cur' e fr) ∧ cur'.size = cur.size
theorem grow_refl (w : World) (b : Nat) : GB w w b := ⟨World.grownBy.refl w _, fun cur _ _ h => ⟨cur, h, rfl⟩⟩
theorem grow_trans {w w1 w2 : World} {b : Nat} (h1 : GB w w1 b) (h2 : GB w1 w2 b) : GB w w2 b :=
  ⟨⟨h2.1.os.trans h1.1.os, h2.1.tape.trans h1.1.tape, h2.1.output.trans h1.1.output, Nat.le_trans h1.1.size h2.1.size, fun k hk hne => (h2.1.block k (Nat.lt_of_lt_of_le hk h1.1.size) hne).trans (h1.1.block k hk hne)⟩,
   fun cur e fr h => by
    obtain ⟨c1, k1, k2⟩ := h1.2 cur e fr h
    obtain ⟨c2, k3, k4⟩ := h2.2 c1 e fr k1
    exact ⟨c2, k3, k4.trans k2⟩⟩
theorem grow_drewN (w : World) (m : Nat) (b : Nat) : GB w (w.drewN m) b := ⟨⟨rfl, rfl, rfl, Nat.le_refl _, fun _ _ _ => rfl⟩, fun cur _ _ h => ⟨cur, h, rfl⟩⟩
theorem grow_set (w : World) (b k : Nat) (v : Value) : GB w (w.setCell ⟨b, k, none⟩ v) b :=
  ⟨⟨rfl, rfl, rfl, by simp [World.setCell], fun q _ hne => Below.heap_setCell w ⟨b, k, none⟩ v q (fun e => hne (by rw [e]))⟩, fun cur e fr h => by
    simp [World.setCell, Array.getElem?_modify, h]⟩
theorem GB.drew' {w w' : World} {b : Nat} (h : GB w w' b) : GB w w'.drew b := ⟨⟨h.1.os, h.1.tape, h.1.output, h.1.size, h.1.block⟩, h.2⟩
theorem ne_offq {b x y : Nat} (h : x ≠ y) : (⟨b, x, none⟩ : Addr) ≠ ⟨b, y, none⟩ := fun e => h (by injection e)
/-- three cells written -/
def put3 (w : World) (b o i : Nat) (z : St) : World := ((w.setCell ⟨b, o + i * 3, none⟩ (.int .i64 z.1)).setCell ⟨b, o + i * 3 + 1, none⟩ (.int .i64 z.2.1)).setCell ⟨b, o + i * 3 + 2, none⟩ (.string z.2.2)
theorem Q.put {w : World} {b o n : Nat} {f : Nat → St} (h : Q w b o n f) (i : Nat) (z : St) (hi : i < n) : Q (put3 w b o i z) b o n (fun k => if k = i then z else f k) := by
  unfold put3
  refine ⟨by simpa [World.setCell] using h.1, fun k hk => ?_⟩
  obtain ⟨x1, x2, x3, x4, x5, x6⟩ := h.2 k hk
  simp only [World.frozen?_setCell]
  refine ⟨?_, ?_, ?_, x4, x5, x6⟩
  · by_cases hki : k = i
    · subst hki
      rw [World.cell?_setCell_other _ _ _ _ (ne_offq (by omega)), World.cell?_setCell_other _ _ _ _ (ne_offq (by omega)), World.cell?_setCell_same _ _ _ x1]; simp
    · rw [World.cell?_setCell_other _ _ _ _ (ne_offq (by omega)), World.cell?_setCell_other _ _ _ _ (ne_offq (by omega)), World.cell?_setCell_other _ _ _ _ (ne_offq (by omega)), x1]; simp [hki]
  · by_cases hki : k = i
    · subst hki
      rw [World.cell?_setCell_other _ _ _ _ (ne_offq (by omega)), World.cell?_setCell_same _ _ _ ((World.cell?_setCell_other _ _ _ _ (ne_offq (by omega))).trans x2)]; simp
    · rw [World.cell?_setCell_other _ _ _ _ (ne_offq (by omega)), World.cell?_setCell_other _ _ _ _ (ne_offq (by omega)), World.cell?_setCell_other _ _ _ _ (ne_offq (by omega)), x2]; simp [hki]
  · by_cases hki : k = i
    · subst hki
      rw [World.cell?_setCell_same _ _ _ ((World.cell?_setCell_other _ _ _ _ (ne_offq (by omega))).trans ((World.cell?_setCell_other _ _ _ _ (ne_offq (by omega))).trans x3))]; simp
    · rw [World.cell?_setCell_other _ _ _ _ (ne_offq (by omega)), World.cell?_setCell_other _ _ _ _ (ne_offq (by omega)), World.cell?_setCell_other _ _ _ _ (ne_offq (by omega)), x3]; simp [hki]
theorem grow_put3 (w : World) (b o i : Nat) (z : St) : GB w (put3 w b o i z) b := grow_trans (grow_trans (grow_set _ _ _ _) (grow_set _ _ _ _)) (grow_set _ _ _ _)
theorem Q.swap {w : World} {b o n : Nat} {f : Nat → St} (h : Q w b o n f) (i j : Nat) (hi : i < n) (hj : j < n) (hij : i ≠ j) : Q (put3 (put3 w b o i (f j)) b o j (f i)) b o n (swf f i j) := by
  refine ((h.put i (f j) hi).put j (f i) hj).congr fun k hk => ?_
  unfold swf
  repeat' split
  all_goals first | rfl | omega
theorem less_any (w : World) (b o n c : Nat) (f : Nat → St) (i j : Nat) (hi : i < n) (hj : j < n) (hn : n ≤ 4294967296) (h : Q w b o n f) :
    Calls Try.prog 59 #[.slice (some ⟨b, o, none⟩) n c, .int .i64 i, .int .i64 j] w fun e w' => e = .returned (.bool (ltE (f i) (f j))) ∧ ∃ m, w' = w.drewN m := by
  obtain ⟨x1, x2, x3, _⟩ := h.2 i hi
  obtain ⟨y1, y2, y3, _⟩ := h.2 j hj
  clear h
  generalize f i = x at *
  generalize f j = y at *
  by_cases he : x.1 = y.1
  · have e1 : (x.1 != y.1) = false := by simp [he]
    have HE := Lib.hid he
    clear he
    go_enter Try.func59, Try.ntmps59
    go_wp2
    go_quiet (fail)
    go_wp2
    go_quiet (fail)
    go_wp2
    go_ret
    exact ⟨by rw [show ltE x y = decide (x.2.1 < y.2.1) from if_pos HE.out]; rfl, _, World.drewN_drewN _ _ _⟩
  · have e1 : (x.1 != y.1) = true := by simp [he]
    have HE := Lib.hid he
    clear he
    go_enter Try.func59, Try.ntmps59
    go_wp2
    go_quiet (fail)
    go_wp2
    go_quiet (fail)
    go_wp2
    go_ret
    exact ⟨by rw [show ltE x y = decide (x.1 < y.1) from if_neg HE.out]; rfl, _, World.drewN_drewN _ _ _⟩
theorem len_any (w : World) (a : Option Addr) (n c : Nat) : Calls Try.prog 58 #[.slice a n c] w fun e w' => e = .returned (.int .i64 n) ∧ w = w' := by
  go_enter Try.func58, Try.ntmps58
  go_wp2
  go_ret
  exact ⟨rfl, rfl⟩
theorem swap_any (w : World) (b o n c : Nat) (f : Nat → St) (i j : Nat) (hi : i < n) (hj : j < n) (hij : i ≠ j) (hn : n ≤ 4294967296) (h : Q w b o n f) :
    Calls Try.prog 60 #[.slice (some ⟨b, o, none⟩) n c, .int .i64 i, .int .i64 j] w fun e w' => e = .returned (.tuple #[]) ∧ Q w' b o n (swf f i j) ∧ GB w w' b := by
  have HQ := Lib.hid h
  obtain ⟨x1, x2, x3, x4, x5, x6⟩ := h.2 i hi
  obtain ⟨y1, y2, y3, y4, y5, y6⟩ := h.2 j hj
  clear h
  go_enter Try.func60, Try.ntmps60
  go_wp2
  go_region
  all_goals go_wp2
  all_goals go_end0
  all_goals exact ⟨rfl, (HQ.out.swap i j hi hj hij).drew, (grow_trans (grow_put3 w b o i (f j)) (grow_put3 _ b o j (f i))).drew'⟩
end Go.Proofs.Ytboiigeomgdkjaa
