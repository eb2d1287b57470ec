/-
  Words of the prover's own on lists of steps (three cells each: two numbers and a text): how an argument of that type is opened. No condition.
-/
import Derived.Test.YtboiigeomgdkjaaArg
set_option linter.unusedVariables false
namespace Go.Proofs.Ytboiigeomgdkjaa
open Go.RowKit Go.ChangeShapes Go.WideShapes Go.Deep

abbrev St := Int × Int × ByteArray
def stC (z : St) : List Value := [.int .i64 z.1, .int .i64 z.2.1, .string z.2.2]
def stepCells (l : List St) : List Value := l.flatMap stC
theorem stepCells_cons (a : St) (l : List St) : stepCells (a :: l) = stC a ++ stepCells l := by simp [stepCells]
theorem stepCells_append (l m : List St) : stepCells (l ++ m) = stepCells l ++ stepCells m := by simp [stepCells]
theorem stepCells_len (l : List St) : (stepCells l).length = l.length * 3 := by
  induction l with
  | nil => rfl
  | cons a l ih => rw [stepCells_cons, List.length_append, ih]; simp [stC]; omega
theorem stepCells_at (l : List St) (i j : Nat) (hi : i < l.length) (hj : j < 3) : (stepCells l)[i * 3 + j]? = (stC l[i])[j]? := by
  induction l generalizing i with
  | nil => simp at hi
  | cons a l ih =>
    rw [stepCells_cons]
    cases i with
    | zero => rw [List.getElem?_append_left (by simp [stC]; omega)]; simp
    | succ i =>
      rw [List.getElem?_append_right (by simp [stC]; omega), show (i + 1) * 3 + j - (stC a).length = i * 3 + j by simp [stC]; omega]
      simp only [List.getElem_cons_succ]
      exact ih i (by simpa using hi)
def stWf (z : St) : Prop := (Lit.int .i64 z.1).wf = true ∧ (Lit.int .i64 z.2.1).wf = true ∧ z.2.2.size ≤ maxLen

section
variable {H : Type} {enc : TypeId × Value → H} {P : Program} {w : World} {base : Nat} {spare : Nat → Bool} {held : Bool}
theorem open_step {e : TypeId} {f0 f1 f2 : Field} {fuel : Nat} {a : Addr} {cs : List Value} {d : DataW H × List MemPlace} (he : P.underlying e = some (.struct #[f0, f1, f2])) (hone : oneCellFields P #[f0, f1, f2] = true) (h0 : P.underlying f0.type = some (.int .i64)) (h1 : P.underlying f1.type = some (.int .i64)) (h2 : P.underlying f2.type = some .string)
    (hc : w.cells? base a 3 = some cs) (ht : DataW.trod enc P w base spare held fuel e cs = some d) :
    ∃ z : St, stWf z ∧ ∀ j, j < 3 → w.cell? (a.add j) = (stC z)[j]? := by
  obtain ⟨ys, n', hn', hy, hlen, hyl, hf⟩ := DataW.trod_struct he ht
  obtain ⟨_, hcl, hat⟩ := World.cells?_some hc
  match cs, hcl with
  | [c0, c1, c2], _ =>
    obtain ⟨o0, k0⟩ := hone_of hone 0 f0 rfl
    obtain ⟨o1, k1⟩ := hone_of hone 1 f1 rfl
    obtain ⟨o2, k2⟩ := hone_of hone 2 f2 rfl
    have t0 := hf 0 f0 rfl
    have t1 := hf 1 f1 rfl
    have t2 := hf 2 f2 rfl
    rw [o0, k0, List.getElem?_eq_getElem (by rw [hyl]; simp)] at t0
    rw [o1, k1, List.getElem?_eq_getElem (by rw [hyl]; simp)] at t1
    rw [o2, k2, List.getElem?_eq_getElem (by rw [hyl]; simp)] at t2
    obtain ⟨z0, e0, _, w0⟩ := DataW.trod_int h0 t0
    obtain ⟨z1, e1, _, w1⟩ := DataW.trod_int h1 t1
    obtain ⟨z2, e2, _, w2⟩ := DataW.trod_string h2 t2
    simp at e0 e1 e2
    subst e0 e1 e2
    refine ⟨(z0, z1, z2), ⟨w0, w1, w2⟩, fun j hj => ?_⟩
    exact hat j hj
theorem open_arg_steps {t e : TypeId} {f0 f1 f2 : Field} {a : Option Addr} {len cap : Nat} {d : DataW H} {p : List MemPlace} (ht : P.underlying t = some (.slice e)) (he : P.underlying e = some (.struct #[f0, f1, f2])) (hone : oneCellFields P #[f0, f1, f2] = true) (h0 : P.underlying f0.type = some (.int .i64)) (h1 : P.underlying f1.type = some (.int .i64)) (h2 : P.underlying f2.type = some .string) (hC : P.cellsOf e = 3)
    (hlt : ∀ x ∈ p, x.block < w.heap.size) (h : DataW.Trod enc P w base spare held t (.slice a len cap) d p) :
    ∃ zs : List St, zs.length = len ∧ len ≤ cap ∧ cap ≤ maxLen ∧ (∀ z ∈ zs, stWf z) ∧ Arg w w.heap.size 3 a len (stepCells zs) := by
  obtain ⟨fuel, hf⟩ := h
  rcases open_slice ht hf with ⟨hcs, _⟩ | ⟨x, l, c, m, n, D, Pl, hcs, _, hl, hm, hz, hx, hi⟩
  · simp [Value.cells] at hcs
    obtain ⟨rfl, rfl, rfl⟩ := hcs
    exact ⟨[], rfl, Nat.le_refl _, by simp [maxLen], by simp, by simp [stepCells], fun h => absurd h (by omega)⟩
  · simp [Value.cells] at hcs
    obtain ⟨rfl, rfl, rfl⟩ := hcs
    have hml : len ≤ m := by rw [hz]; split <;> omega
    rw [hC] at hi
    have hall : ∀ i, ∃ z : St, i < m → stWf z ∧ ∀ j, j < 3 → w.cell? (x.add (i * 3 + j)) = (stC z)[j]? := fun i => by
      by_cases him : i < m
      · obtain ⟨cs', c1, c2⟩ := hi i him
        obtain ⟨z, z1, z2⟩ := open_step he hone h0 h1 h2 c1 c2
        exact ⟨z, fun _ => ⟨z1, fun j hj => by rw [← z2 j hj, Go.Deep.add_add]⟩⟩
      · exact ⟨(0, 0, ⟨#[]⟩), fun h => absurd h him⟩
    obtain ⟨Z, hZ⟩ := Classical.axiomOfChoice hall
    have hlen : ((List.range len).map Z).length = len := by simp
    refine ⟨(List.range len).map Z, hlen, hl, hm, fun z hz' => ?_, by rw [stepCells_len, hlen], fun hn => ?_⟩
    · obtain ⟨i, hi', rfl⟩ := List.mem_map.1 hz'
      exact (hZ i (by have := List.mem_range.1 hi'; omega)).1
    · have hc0 := (hZ 0 (by omega)).2 0 (by omega)
      rw [show (stC (Z 0))[0]? = some (.int .i64 (Z 0).1) from rfl, Nat.zero_mul] at hc0
      obtain ⟨b, o, rfl⟩ := plain_addr hc0
      simp only [Prod.mk.injEq] at hx
      refine ⟨b, o, rfl, hlt (.cell b o) (by rw [hx.2, hC]; exact List.mem_append_left _ (MemPlace.mem_row.2 ⟨0, by omega, rfl⟩)), fun j hj => ?_⟩
      have e := (hZ (j / 3) (by omega)).2 (j % 3) (by omega)
      rw [Addr.add_lit, show j / 3 * 3 + j % 3 = j by omega] at e
      rw [e]
      have := stepCells_at ((List.range len).map Z) (j / 3) (j % 3) (by rw [hlen]; omega) (by omega)
      rw [show j / 3 * 3 + j % 3 = j by omega] at this
      rw [this]
      simp
end
end Go.Proofs.Ytboiigeomgdkjaa
