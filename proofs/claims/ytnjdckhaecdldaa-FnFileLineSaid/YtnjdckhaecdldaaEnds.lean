/-
  Plain facts on what spec.Ends and spec.Holds tell. No program.
-/
import Derived.Test.YtnjdckhaecdldaaTerms
import Derived.Test.YtnjdckhaecdldaaBitPlain
import Derived.Deep.QuietTactic
import Derived.BigQuiet
set_option linter.unusedVariables false
namespace Go.Proofs.Ytnjdckhaecdldaa
open Go.RowKit Go.PlainAid Go.Lib

theorem rB {a b : Bool} (h : a = b) : Ending.returned (.bool a) = .returned (.bool b) := by rw [h]
def DrewB (b : Bool) (w : World) (e : Ending) (w' : World) : Prop := e = .returned (.bool b) ∧ ∃ n, w' = w.drewN n
theorem ends_all {id : Int} {s : ByteArray} (h : ∀ q, q < s.size → bitAt id s.size q = bt s q) : endsB id (L s) = true := by
  simp only [endsB, Bool.or_eq_true, List.all_eq_true, List.mem_range, beq_iff_eq, L_len]
  exact .inr fun k hk => by rw [h k hk, bt_getD]
theorem ends_not {id : Int} {s : ByteArray} {k : Nat} (hk : k < s.size) (hy : L s ≠ [121]) (h : bitAt id s.size k ≠ bt s k) : endsB id (L s) = false := by
  rw [Bool.eq_false_iff]
  intro h2
  simp only [endsB, decide_eq_false hy, Bool.false_or, List.all_eq_true, List.mem_range, beq_iff_eq, L_len] at h2
  exact h (by rw [h2 k hk, bt_getD])
/-- what spec.Holds tells -/
def holdsTo (id : Int) (all : Bool) (ts : List (Bs × Bool)) : Bool := ts.foldl (fun i t => if endsB id t.1 then t.2 else i) all
theorem holds_snoc (id : Int) (all : Bool) (ts : List (Bs × Bool)) (t : Bs × Bool) : holdsTo id all (ts ++ [t]) = if endsB id t.1 then t.2 else holdsTo id all ts := by simp [holdsTo]
theorem termCells_at (l : List (Bs × Bool)) (k : Nat) (h : k < l.length) : (termCells l)[k * 2]? = some (S l[k].1) ∧ (termCells l)[k * 2 + 1]? = some (.bool l[k].2) := by
  induction l generalizing k with
  | nil => simp at h
  | cons a l ih =>
    have e : termCells (a :: l) = [S a.1, .bool a.2] ++ termCells l := rfl
    cases k with
    | zero => rw [e]; exact ⟨rfl, rfl⟩
    | succ k =>
      have hk : k < l.length := by simpa using h
      obtain ⟨h1, h2⟩ := ih k hk
      rw [e, List.getElem_cons_succ]
      refine ⟨?_, ?_⟩
      · rw [List.getElem?_append_right (by simp; omega)]; simpa [show (k + 1) * 2 - 2 = k * 2 by omega] using h1
      · rw [List.getElem?_append_right (by simp; omega)]; simpa [show (k + 1) * 2 + 1 - 2 = k * 2 + 1 by omega] using h2
def HoldsPost (b : Bool) (w : World) (e : Ending) (w' : World) : Prop := e = .returned (.bool b) ∧ Below w.heap.size w w'
end Go.Proofs.Ytnjdckhaecdldaa
