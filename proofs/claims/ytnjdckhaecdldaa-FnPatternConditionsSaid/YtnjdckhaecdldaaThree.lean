/-
  A region that draws its order and holds three appends, each of one element that it has laid into a block of its own before: whatever the order, each slice has its element behind. No program in sight.
-/
import Derived.Test.YtnjdckhaecdldaaRow
import Derived.Deep.RegionHeld
namespace Go.Proofs.Ytnjdckhaecdldaa
open Go.RowKit Go.Lib

/-- An invariant that every operation that may come up hands on serves a region whose order is drawn. -/
theorem wpAnyH_inv {P : Program} {md : Region.Mode} {ops : Array Oper} {Q : Exit → Act → World → Prop} {S : World → Prop} {I : Nat → Array Bool → Act → World → Prop} (m : Nat)
    (hb : ∀ listed a w, I 0 listed a w → wpAnyH P md ops Q S m listed a w)
    (hs : ∀ n listed a w, I (n + 1) listed a w → ∃ rs, Region.ready md ops listed = rs ∧ rs ≠ [] ∧ ∀ i ∈ rs, wpOp P ops Q i (fun a' w' => S w' ∧ I n (listed.setIfInBounds i true) a' w') a w) :
    ∀ n listed a w, I n listed a w → wpAnyH P md ops Q S (m + n) listed a w
  | 0, l, a, w, h => hb l a w h
  | n + 1, l, a, w, h => by
    obtain ⟨rs, h1, h2, h3⟩ := hs n l a w h
    exact wpAnyH_all h1 h2 fun i hi => wpOp_mono (fun a' w' h' => ⟨h'.1, wpAnyH_inv m hb hs n _ a' w' h'.2⟩) (h3 i hi)

def upd {α : Type} (f : Fin 3 → α) (i : Fin 3) (x : α) : Fin 3 → α := fun j => if j = i then x else f j
theorem upd_same {α : Type} (f : Fin 3 → α) (i : Fin 3) (x : α) : upd f i x i = x := by simp [upd]
theorem upd_other {α : Type} (f : Fin 3 → α) {i j : Fin 3} (h : j ≠ i) (x : α) : upd f i x j = f j := by simp [upd, h]
/-- One chain: nothing done; the element laid; appended. -/
def Ch (B k : Nat) (e : TypeId) (v : Value) (xs : List Value) (c : Value) (s : Nat) (ub ua : Value) (w : World) : Prop :=
  match s with
  | 0 => Row w B 1 v k xs
  | 1 => Row w B 1 v k xs ∧ ∃ g, ub = .slice (some ⟨g, 0, none⟩) 1 1 ∧ w.heap[g]? = some (.cells #[c] e (0, 0))
  | _ => Row w B 1 ua (k + 1) (xs ++ [c])
def ownB (s : Nat) (v ua : Value) : Option Nat := if s = 2 then ua.ownBlock else v.ownBlock
def penB (s : Nat) (ub : Value) : Option Nat := if s = 1 then ub.ownBlock else none
structure Tri (W : World) (B k gc : Nat) (o : Obj) (e : Fin 3 → TypeId) (v : Fin 3 → Value) (xs : Fin 3 → List Value) (c : Fin 3 → Value) (s : Fin 3 → Nat) (ub ua : Fin 3 → Value) (w : World) : Prop where
  two : ∀ i, s i ≤ 2
  ch : ∀ i, Ch B k (e i) (v i) (xs i) (c i) (s i) (ub i) (ua i) w
  low : ∀ i g, ownB (s i) (v i) (ua i) = some g → g < w.heap.size
  plow : ∀ i g, penB (s i) (ub i) = some g → g < w.heap.size
  dis : ∀ i j g, i ≠ j → ownB (s i) (v i) (ua i) = some g → ownB (s j) (v j) (ua j) ≠ some g
  pen : ∀ i j g, i ≠ j → ownB (s i) (v i) (ua i) = some g → penB (s j) (ub j) ≠ some g
  gcn : ∀ i, ownB (s i) (v i) (ua i) ≠ some gc
  cel : w.heap[gc]? = some o
  bel : Below B W w
  siz : B ≤ w.heap.size

section
variable {W w : World} {B k gc : Nat} {o : Obj} {e : Fin 3 → TypeId} {v : Fin 3 → Value} {xs : Fin 3 → List Value} {c : Fin 3 → Value} {s : Fin 3 → Nat} {ub ua : Fin 3 → Value}
theorem Ch.row01 {B k : Nat} {e : TypeId} {v : Value} {xs : List Value} {c : Value} {s : Nat} {ub ua : Value} {w : World} (h : Ch B k e v xs c s ub ua w) (hs : s = 0 ∨ s = 1) : Row w B 1 v k xs := by
  rcases hs with rfl | rfl
  · exact h
  · exact h.1
/-- what an event keeps of the chains that it does not touch -/
theorem Ch.keep {B k : Nat} {e : TypeId} {v : Value} {xs : List Value} {c : Value} {s : Nat} {ub ua : Value} {w w' : World} (h : Ch B k e v xs c s ub ua w) (h2 : s ≤ 2) (hs : w.heap.size ≤ w'.heap.size)
    (hr : ∀ g, ownB s v ua = some g → g < w.heap.size → w'.heap[g]? = w.heap[g]?) (hp : ∀ g, penB s ub = some g → w'.heap[g]? = w.heap[g]?) : Ch B k e v xs c s ub ua w' := by
  obtain rfl | rfl | rfl : s = 0 ∨ s = 1 ∨ s = 2 := by omega
  · exact Row.keep h hs fun g hg _ hl => hr g hg hl
  · obtain ⟨h1, g, rfl, hg⟩ := h
    exact ⟨h1.keep hs fun g hg _ hl => hr g hg hl, g, rfl, (hp g rfl).trans hg⟩
  · exact Row.keep h hs fun g hg _ hl => hr g hg hl
theorem Tri.drew (h : Tri W B k gc o e v xs c s ub ua w) : Tri W B k gc o e v xs c s ub ua w.drew :=
  ⟨h.two, fun i => (h.ch i).keep (h.two i) (Nat.le_refl _) (fun _ _ _ => rfl) (fun _ _ => rfl), h.low, h.plow, h.dis, h.pen, h.gcn, h.cel, h.bel.drew, h.siz⟩
/-- an element is laid -/
theorem Tri.build (h : Tri W B k gc o e v xs c s ub ua w) (i : Fin 3) (hi : s i = 0) (hgc : gc < w.heap.size) :
    Tri W B k gc o e v xs c (upd s i 1) (upd ub i (.slice (some ⟨w.heap.size, 0, none⟩) 1 1)) ua (w.alloc (.cells #[c i] (e i))) := by
  have hsz : (w.alloc (.cells #[c i] (e i))).heap.size = w.heap.size + 1 := by simp
  have hold : ∀ g, g < w.heap.size → (w.alloc (.cells #[c i] (e i))).heap[g]? = w.heap[g]? := fun g hg => Below.heap_alloc w _ g hg
  have hown : ∀ j, ownB (upd s i 1 j) (v j) (ua j) = ownB (s j) (v j) (ua j) := fun j => by
    by_cases hj : j = i
    · subst hj; rw [upd_same, hi]; rfl
    · rw [upd_other _ hj]
  have hpen : ∀ j g, penB (upd s i 1 j) (upd ub i (.slice (some ⟨w.heap.size, 0, none⟩) 1 1) j) = some g → (j = i ∧ g = w.heap.size) ∨ (j ≠ i ∧ penB (s j) (ub j) = some g) := fun j g hg => by
    by_cases hj : j = i
    · subst hj; rw [upd_same, upd_same] at hg; injection hg with hg; exact .inl ⟨rfl, hg.symm⟩
    · rw [upd_other _ hj, upd_other _ hj] at hg; exact .inr ⟨hj, hg⟩
  refine ⟨fun j => ?_, fun j => ?_, fun j g hg => ?_, fun j g hg => ?_, fun a b g hab ha => ?_, fun a b g hab ha hb => ?_, fun j => ?_, ?_, h.bel.alloc h.siz _, by have := h.siz; omega⟩
  · by_cases hj : j = i
    · subst hj; rw [upd_same]; omega
    · rw [upd_other _ hj]; exact h.two j
  · by_cases hj : j = i
    · subst hj
      rw [upd_same, upd_same]
      exact ⟨((h.ch j).row01 (.inl hi)).alloc _, _, rfl, heap_alloc_new w _⟩
    · rw [upd_other _ hj, upd_other _ hj]
      exact (h.ch j).keep (h.two j) (by omega) (fun g _ hl => hold g hl) (fun g hg => hold g (h.plow j g hg))
  · rw [hown] at hg; have := h.low j g hg; omega
  · rcases hpen j g hg with ⟨_, rfl⟩ | ⟨_, h1⟩
    · omega
    · have := h.plow j g h1; omega
  · rw [hown] at ha ⊢; exact h.dis a b g hab ha
  · rw [hown] at ha
    rcases hpen b g hb with ⟨_, rfl⟩ | ⟨_, h1⟩
    · have := h.low a _ ha; omega
    · exact h.pen a b g hab ha h1
  · rw [hown]; exact h.gcn j
  · rw [hold gc hgc]; exact h.cel
/-- an element is appended -/
theorem Tri.app (h : Tri W B k gc o e v xs c s ub ua w) (i : Fin 3) (hi : s i = 1) {v' : Value} {w' : World} (hr : Row w' B 1 v' (k + 1) (xs i ++ [c i])) (hg : w.grownBy w' (v i).ownBlock)
    (ho : v'.ownBlock = (v i).ownBlock ∨ v'.ownBlock = some w.heap.size) (hgc : gc < w.heap.size) :
    Tri W B k gc o e v xs c (upd s i 2) ub (upd ua i v') w' := by
  have hoi : ownB (s i) (v i) (ua i) = (v i).ownBlock := by unfold ownB; rw [hi]; rfl
  have hown : ∀ j g, ownB (upd s i 2 j) (v j) (upd ua i v' j) = some g → (j = i ∧ v'.ownBlock = some g) ∨ (j ≠ i ∧ ownB (s j) (v j) (ua j) = some g) := fun j g hg => by
    by_cases hj : j = i
    · subst hj; rw [upd_same, upd_same] at hg; exact .inl ⟨rfl, hg⟩
    · rw [upd_other _ hj, upd_other _ hj] at hg; exact .inr ⟨hj, hg⟩
  have hpen : ∀ j g, penB (upd s i 2 j) (ub j) = some g → j ≠ i ∧ penB (s j) (ub j) = some g := fun j g hg => by
    by_cases hj : j = i
    · subst hj; rw [upd_same] at hg; cases hg
    · rw [upd_other _ hj] at hg; exact ⟨hj, hg⟩
  have hv : ∀ g, v'.ownBlock = some g → ownB (s i) (v i) (ua i) = some g ∨ g = w.heap.size := fun g hg => by
    rcases ho with ho | ho
    · rw [hoi, ← ho]; exact .inl hg
    · rw [ho] at hg; injection hg with hg; exact .inr hg.symm
  have hrl : ∀ g, v'.ownBlock = some g → g < w'.heap.size := hr.blt
  refine ⟨fun j => ?_, fun j => ?_, fun j g hj => ?_, fun j g hj => ?_, fun a b g hab ha hb => ?_, fun a b g hab ha hb => ?_, fun j hj => ?_, ?_, h.bel.grown hg h.siz ?_, by have := h.siz; have := hg.size; omega⟩
  · by_cases hj : j = i
    · subst hj; rw [upd_same]; omega
    · rw [upd_other _ hj]; exact h.two j
  · by_cases hj : j = i
    · subst hj; rw [upd_same, upd_same]; exact hr
    · rw [upd_other _ hj, upd_other _ hj]
      refine (h.ch j).keep (h.two j) hg.size (fun g h1 h2 => hg.block g h2 fun e => ?_) (fun g h1 => hg.block g (h.plow j g h1) fun e => ?_)
      · exact h.dis j i g hj h1 (by rw [hoi, ← e])
      · exact h.pen i j g (Ne.symm hj) (by rw [hoi, ← e]) h1
  · rcases hown j g hj with ⟨_, h1⟩ | ⟨_, h1⟩
    · exact hrl g h1
    · have := h.low j g h1; have := hg.size; omega
  · obtain ⟨_, h1⟩ := hpen j g hj
    have := h.plow j g h1; have := hg.size; omega
  · rcases hown a g ha with ⟨rfl, h1⟩ | ⟨h0, h1⟩
    · rcases hown b g hb with ⟨rfl, _⟩ | ⟨_, h2⟩
      · exact hab rfl
      · rcases hv g h1 with h3 | rfl
        · exact h.dis a b g hab h3 h2
        · have := h.low b _ h2; omega
    · rcases hown b g hb with ⟨rfl, h2⟩ | ⟨_, h2⟩
      · rcases hv g h2 with h3 | rfl
        · exact h.dis a b g hab h1 h3
        · have := h.low a _ h1; omega
      · exact h.dis a b g hab h1 h2
  · obtain ⟨hb0, hb1⟩ := hpen b g hb
    rcases hown a g ha with ⟨rfl, h1⟩ | ⟨h0, h1⟩
    · rcases hv g h1 with h3 | rfl
      · exact h.pen a b g hab h3 hb1
      · have := h.plow b _ hb1; omega
    · exact h.pen a b g hab h1 hb1
  · rcases hown j gc hj with ⟨rfl, h1⟩ | ⟨_, h1⟩
    · rcases hv gc h1 with h3 | h3
      · exact h.gcn j h3
      · omega
    · exact h.gcn j h1
  · rw [hg.block gc hgc (fun e => h.gcn i (by rw [hoi, ← e]))]; exact h.cel
  · exact ((h.ch i).row01 (.inr hi)).blk
end
/-- append(v, y) at a step of a region that draws: one element of one cell, which lies in a block of its own -/
theorem step_append_own1 {P : Program} {w : World} {o : Oper} {a : Act} {K : Act → World → Prop} {Q : Exit → Act → World → Prop} (s x : Operand) (t : TypeId)
    (ho : o.op = .call { callee := .builtin .append, args := #[s, x], argTypes := #[t, t] })
    (B : Nat) (e : TypeId) (i : TypeInfo) (z : Value) (bytes : Nat) (ht : P.underlying t = some (.slice e)) (hi : P.info? e = some i) (hz : i.zero = some z) (hsize : i.size = 1) (hby : i.bytes = bytes) (hzs : z.cells.size = 1)
    (v : Value) (n : Nat) (xs : List Value) (h : Row w B 1 v n xs) (hv : a.eval s = v) (g : Nat) (y : Value) (hx : a.eval x = .slice (some ⟨g, 0, none⟩) 1 1) (hg : w.heap[g]? = some (.cells #[y] e (0, 0))) (hy : y.oneCell' = true)
    (h63 : n + 1 ≤ maxLen) (hbytes : (n + 1) * bytes ≤ 140737488355328) (hB : B ≤ w.heap.size)
    (hK : ∀ v' w', Row w' B 1 v' (n + 1) (xs ++ [y]) → w.grownBy w' v.ownBlock → (v'.ownBlock = v.ownBlock ∨ v'.ownBlock = some w.heap.size) → K (a.put o.dst v') w') : Oper.wp P o a w K Q := by
  have hs : Src P 1 t (.slice (some ⟨g, 0, none⟩) 1 1) 1 [y] w := Src.ofSlice _ ht ⟨g, 0, none⟩ 1 1 [y] rfl (fun j u hu => by
    have hj : j = 0 := by
      rcases Nat.eq_zero_or_pos j with h0 | h0
      · exact h0
      · rw [List.getElem?_eq_none (by simp; omega)] at hu; cases hu
    subst hj
    simp at hu
    subst hu
    rw [Addr.add_lit]
    exact (cell_of_row _ _ _ _ _ _ hg).trans rfl) (fun u hu => by simp at hu; subst hu; exact hy)
  obtain ⟨v', w', hrun, h2, h3, h4⟩ := run_append_row (P := P) w B t t o.type e i z 1 bytes ht hi hz hsize hby hzs h _ 1 [y] hs h63 hbytes hB
  unfold Oper.wp
  simp [execOp, ho, resolve, invoke, builtin, hv, hx, hrun, Result.andThen]
  exact hK v' w' h2 h3 h4
end Go.Proofs.Ytnjdckhaecdldaa
