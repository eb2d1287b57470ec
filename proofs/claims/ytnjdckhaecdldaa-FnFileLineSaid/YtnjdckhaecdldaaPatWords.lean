/-
  Words for the laws on patterns: blocks of the law's own that later calls leave as they are. No condition.
-/
import Derived.Test.YtnjdckhaecdldaaPatLaws
import Derived.Test.YtnjdckhaecdldaaLong
import Derived.Test.YtnjdckhaecdldaaArg
set_option linter.unusedVariables false
namespace Go.Proofs.Ytnjdckhaecdldaa
open Go.RowKit Go.PlainAid

def At (w : World) (b : Nat) (cs : Array Value) : Prop := b < w.heap.size ∧ ∀ k, k < cs.size → w.cell? ⟨b, k, none⟩ = cs[k]?
theorem At.new (w : World) (cs : Array Value) (t : TypeId) : At (w.alloc (.cells cs t)) w.heap.size cs := ⟨by simp, fun k hk => by rw [World.cell?_alloc_new]⟩
theorem At.below {w w' : World} {b : Nat} {cs : Array Value} (h : At w b cs) (hb : Below w.heap.size w w') : At w' b cs :=
  ⟨Nat.lt_of_lt_of_le h.1 hb.size, fun k hk => (hb.cell (p := ⟨b, k, none⟩) h.1).trans (h.2 k hk)⟩
theorem At.alloc {w : World} {b : Nat} {cs : Array Value} (h : At w b cs) (o : Obj) : At (w.alloc o) b cs := h.below ((Below.refl _ _).alloc (Nat.le_refl _) o)
theorem At.five {w : World} {b : Nat} {x0 x1 x2 x3 x4 : Value} (h : At w b #[x0, x1, x2, x3, x4]) : w.cell? ⟨b, 0, none⟩ = some x0 ∧ w.cell? ⟨b, 1, none⟩ = some x1 ∧ w.cell? ⟨b, 2, none⟩ = some x2 ∧ w.cell? ⟨b, 3, none⟩ = some x3 ∧ w.cell? ⟨b, 4, none⟩ = some x4 :=
  ⟨h.2 0 (by simp), h.2 1 (by simp), h.2 2 (by simp), h.2 3 (by simp), h.2 4 (by simp)⟩
theorem At.four {w : World} {b : Nat} {x0 x1 x2 x3 : Value} (h : At w b #[x0, x1, x2, x3]) : w.cell? ⟨b, 0, none⟩ = some x0 ∧ w.cell? ⟨b, 1, none⟩ = some x1 ∧ w.cell? ⟨b, 2, none⟩ = some x2 ∧ w.cell? ⟨b, 3, none⟩ = some x3 :=
  ⟨h.2 0 (by simp), h.2 1 (by simp), h.2 2 (by simp), h.2 3 (by simp)⟩
theorem id_nat {id : Int} (h : (Lit.int .u64 id).wf = true) : ∃ N : Nat, id = (N : Int) ∧ N < 18446744073709551616 := by
  have h2 := bounds_u64 h
  exact ⟨id.toNat, by omega, by omega⟩
theorem Row.keepAll {w w' : World} {B size n : Nat} {v : Value} {xs : List Value} (h : Row w B size v n xs) (hb : Below w.heap.size w w') : Row w' B size v n xs := h.below hb h.blt
end Go.Proofs.Ytnjdckhaecdldaa
