/-
  Words of the prover's own on slices that came in: 'Arg w B size a n xs': the slice value with address a and length n reads as the cells xs and lies below block B. How arguments of the laws are opened to such words. No condition.
-/
import Derived.WalkKit
import Derived.ProofKit
import Derived.OpenShut
import Derived.SliceStrings
import Derived.Deep.Slices
import Derived.Deep.Fields
import Derived.Deep.Draws
import Derived.ChangeSame
namespace Go.Proofs.Ytnjdckhaecdldaa
open Go.RowKit Go.ChangeShapes Go.WideShapes

def Arg (w : World) (B size : Nat) (a : Option Addr) (n : Nat) (xs : List Value) : Prop :=
  xs.length = n * size ∧ (0 < n → ∃ b o, a = some ⟨b, o, none⟩ ∧ b < B ∧ ∀ j, j < n * size → w.cell? ⟨b, o + j, none⟩ = xs[j]?)

section
variable {w w' : World} {B B' size n : Nat} {a : Option Addr} {xs : List Value}
theorem Arg.keep (h : Arg w B size a n xs) (hk : ∀ k, k < B → w'.heap[k]? = w.heap[k]?) : Arg w' B size a n xs :=
  ⟨h.1, fun hn => by
    obtain ⟨b, o, e, hb, hc⟩ := h.2 hn
    exact ⟨b, o, e, hb, fun j hj => (World.cell?_of_block (w := w) (a := ⟨b, o + j, none⟩) (hk b hb)).trans (hc j hj)⟩⟩
theorem Arg.below (h : Arg w B size a n xs) (hb : Below B w w') : Arg w' B size a n xs := h.keep hb.block
theorem Arg.more (h : Arg w B size a n xs) (hB : B ≤ B') : Arg w B' size a n xs :=
  ⟨h.1, fun hn => by
    obtain ⟨b, o, e, hb, hc⟩ := h.2 hn
    exact ⟨b, o, e, by omega, hc⟩⟩
theorem Arg.at_ (h : Arg w B size a n xs) (hn : 0 < n) : ∃ b o, a = some ⟨b, o, none⟩ ∧ b < B ∧ ∀ j, j < n * size → w.cell? ⟨b, o + j, none⟩ = xs[j]? := h.2 hn
end

/-- an address whose cells are there is a plain one -/
theorem plain_addr {w : World} {x : Addr} {v : Value} (h : w.cell? (x.add 0) = some v) : ∃ b o, x = ⟨b, o, none⟩ := by
  obtain ⟨b, o, s⟩ := x
  have := World.cell?_spot h
  have hs : s = none := by simpa [Addr.add] using this
  exact ⟨b, o, by rw [hs]⟩

section
variable {H : Type} {enc : TypeId × Value → H} {P : Program} {w : World} {base : Nat} {spare : Nat → Bool} {held : Bool}

theorem open_arg_ints {k : IntKind} {t e : TypeId} {a : Option Addr} {len cap : Nat} {d : DataW H} {p : List MemPlace} (ht : P.underlying t = some (.slice e)) (he : P.underlying e = some (.int k)) (hc : P.cellsOf e = 1)
    (hlt : ∀ x ∈ p, x.block < w.heap.size) (h : DataW.Trod enc P w base spare held t (.slice a len cap) d p) :
    ∃ zs : List Int, zs.length = len ∧ len ≤ cap ∧ cap ≤ maxLen ∧ (∀ n ∈ zs, (Lit.int k n).wf = true) ∧ Arg w w.heap.size 1 a len (zs.map (Value.int k)) := by
  obtain ⟨fuel, hf⟩ := h
  rcases open_ints ht he hc hf with ⟨hcs, _⟩ | ⟨x, l, c, zs, hcs, _, hl, hm, hz, hx, hcell, hwz⟩
  · simp [Value.cells] at hcs
    obtain ⟨rfl, rfl, rfl⟩ := hcs
    exact ⟨[], rfl, Nat.le_refl _, by simp [maxLen], by simp, by simp, fun h => absurd h (by omega)⟩
  · simp [Value.cells] at hcs
    obtain ⟨rfl, rfl, rfl⟩ := hcs
    have hzl : len ≤ zs.length := by rw [hz]; split <;> omega
    refine ⟨zs.take len, by simp; omega, hl, hm, fun n hn => hwz n (List.mem_of_mem_take hn), by simp; omega, fun hn => ?_⟩
    obtain ⟨b, o, rfl⟩ := plain_addr (hcell 0 (by omega))
    simp only [Prod.mk.injEq] at hx
    refine ⟨b, o, rfl, hlt (.cell b o) (by rw [hx.2]; exact MemPlace.mem_row.2 ⟨0, by omega, rfl⟩), fun j hj => ?_⟩
    have := hcell j (by omega)
    rw [Addr.add_lit] at this
    rw [this, List.getElem?_map, List.getElem?_take, if_pos (by omega), List.getElem?_eq_getElem (by omega)]
    simp [List.getD, List.getElem?_eq_getElem (show j < zs.length by omega)]

theorem open_arg_strs {t e : TypeId} {a : Option Addr} {len cap : Nat} {d : DataW H} {p : List MemPlace} (ht : P.underlying t = some (.slice e)) (he : P.underlying e = some .string) (hc : P.cellsOf e = 1)
    (hlt : ∀ x ∈ p, x.block < w.heap.size) (h : DataW.Trod enc P w base spare held t (.slice a len cap) d p) :
    ∃ ss : List ByteArray, ss.length = len ∧ len ≤ cap ∧ cap ≤ maxLen ∧ (∀ s ∈ ss, s.size ≤ maxLen) ∧ Arg w w.heap.size 1 a len (ss.map Value.string) := by
  obtain ⟨fuel, hf⟩ := h
  rcases open_strings ht he hc hf with ⟨hcs, _⟩ | ⟨x, l, c, ss, hcs, _, hl, hm, hz, hx, hcell, hws⟩
  · simp [Value.cells] at hcs
    obtain ⟨rfl, rfl, rfl⟩ := hcs
    exact ⟨[], rfl, Nat.le_refl _, by simp [maxLen], by simp, by simp, fun h => absurd h (by omega)⟩
  · simp [Value.cells] at hcs
    obtain ⟨rfl, rfl, rfl⟩ := hcs
    have hzl : len ≤ ss.length := by rw [hz]; split <;> omega
    refine ⟨ss.take len, by simp; omega, hl, hm, fun n hn => hws n (List.mem_of_mem_take hn), by simp; omega, fun hn => ?_⟩
    obtain ⟨b, o, rfl⟩ := plain_addr (hcell 0 (by omega))
    simp only [Prod.mk.injEq] at hx
    refine ⟨b, o, rfl, hlt (.cell b o) (by rw [hx.2]; exact MemPlace.mem_row.2 ⟨0, by omega, rfl⟩), fun j hj => ?_⟩
    have := hcell j (by omega)
    rw [Addr.add_lit] at this
    rw [this, List.getElem?_map, List.getElem?_take, if_pos (by omega), List.getElem?_eq_getElem (by omega)]
    simp [List.getD, List.getElem?_eq_getElem (show j < ss.length by omega)]
end
end Go.Proofs.Ytnjdckhaecdldaa
