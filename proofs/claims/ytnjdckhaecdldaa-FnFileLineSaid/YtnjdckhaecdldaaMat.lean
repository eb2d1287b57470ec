/-
  Words of the prover's own on a matcher that lies in a block of its own: its four cells, and the row of its conditions. No condition.
-/
import Derived.Test.YtnjdckhaecdldaaPatPlain
import Derived.Test.YtnjdckhaecdldaaProg
import Derived.Test.YtnjdckhaecdldaaRow
namespace Go.Proofs.Ytnjdckhaecdldaa
open Go.RowKit Go.PlainAid

def condCells (l : List Cond) : List Value := l.flatMap fun c => [.int .u64 c.mask, .int .u64 c.bits, .bool c.res]
theorem condCells_append (l m : List Cond) : condCells (l ++ m) = condCells l ++ condCells m := by simp [condCells]
theorem condCells_len (l : List Cond) : (condCells l).length = l.length * 3 := by
  induction l with
  | nil => rfl
  | cons a l ih => rw [show a :: l = [a] ++ l from rfl, condCells_append, List.length_append, ih]; simp [condCells]; omega
def MatAt (w : World) (b : Nat) (v q e : Bool) (sv : Value) : Prop :=
  (∀ k, k < 4 → w.frozen? ⟨b, k, none⟩ = false) ∧ w.cell? ⟨b, 0, none⟩ = some (.bool v) ∧ w.cell? ⟨b, 1, none⟩ = some (.bool q) ∧ w.cell? ⟨b, 2, none⟩ = some (.bool e) ∧ w.cell? ⟨b, 3, none⟩ = some sv
section
variable {w w' : World} {b : Nat} {v q e : Bool} {sv : Value}
theorem MatAt.keep (h : MatAt w b v q e sv) (hk : w'.heap[b]? = w.heap[b]?) : MatAt w' b v q e sv := by
  obtain ⟨h0, h1, h2, h3, h4⟩ := h
  have c : ∀ k, w'.cell? ⟨b, k, none⟩ = w.cell? ⟨b, k, none⟩ := fun k => World.cell?_of_block (w := w) (a := ⟨b, k, none⟩) hk
  exact ⟨fun k hk4 => (World.frozen?_of_block (w := w) (a := ⟨b, k, none⟩) hk).trans (h0 k hk4), (c 0).trans h1, (c 1).trans h2, (c 2).trans h3, (c 3).trans h4⟩
theorem MatAt.lt (h : MatAt w b v q e sv) : b < w.heap.size := World.block_lt_of_cell? w ⟨b, 0, none⟩ h.2.1
theorem MatAt.alloc (h : MatAt w b v q e sv) (o : Obj) : MatAt (w.alloc o) b v q e sv := h.keep (Below.heap_alloc w o b h.lt)
theorem MatAt.drewN (h : MatAt w b v q e sv) (n : Nat) : MatAt (w.drewN n) b v q e sv := h
theorem ne_off {b j k : Nat} (h : j ≠ k) : (⟨b, j, none⟩ : Addr) ≠ ⟨b, k, none⟩ := fun e => h (by injection e)
theorem MatAt.set0 (h : MatAt w b v q e sv) (u : Bool) : MatAt (w.setCell ⟨b, 0, none⟩ (.bool u)) b u q e sv := by
  obtain ⟨h0, h1, h2, h3, h4⟩ := h
  exact ⟨fun k hk => by rw [World.frozen?_setCell]; exact h0 k hk, World.cell?_setCell_same w _ _ h1, (World.cell?_setCell_other w _ _ _ (ne_off (by omega))).trans h2, (World.cell?_setCell_other w _ _ _ (ne_off (by omega))).trans h3, (World.cell?_setCell_other w _ _ _ (ne_off (by omega))).trans h4⟩
theorem MatAt.set1 (h : MatAt w b v q e sv) (u : Bool) : MatAt (w.setCell ⟨b, 1, none⟩ (.bool u)) b v u e sv := by
  obtain ⟨h0, h1, h2, h3, h4⟩ := h
  exact ⟨fun k hk => by rw [World.frozen?_setCell]; exact h0 k hk, (World.cell?_setCell_other w _ _ _ (ne_off (by omega))).trans h1, World.cell?_setCell_same w _ _ h2, (World.cell?_setCell_other w _ _ _ (ne_off (by omega))).trans h3, (World.cell?_setCell_other w _ _ _ (ne_off (by omega))).trans h4⟩
theorem MatAt.set2 (h : MatAt w b v q e sv) (u : Bool) : MatAt (w.setCell ⟨b, 2, none⟩ (.bool u)) b v q u sv := by
  obtain ⟨h0, h1, h2, h3, h4⟩ := h
  exact ⟨fun k hk => by rw [World.frozen?_setCell]; exact h0 k hk, (World.cell?_setCell_other w _ _ _ (ne_off (by omega))).trans h1, (World.cell?_setCell_other w _ _ _ (ne_off (by omega))).trans h2, World.cell?_setCell_same w _ _ h3, (World.cell?_setCell_other w _ _ _ (ne_off (by omega))).trans h4⟩
theorem MatAt.set3 (h : MatAt w b v q e sv) (u : Value) : MatAt (w.setCell ⟨b, 3, none⟩ u) b v q e u := by
  obtain ⟨h0, h1, h2, h3, h4⟩ := h
  exact ⟨fun k hk => by rw [World.frozen?_setCell]; exact h0 k hk, (World.cell?_setCell_other w _ _ _ (ne_off (by omega))).trans h1, (World.cell?_setCell_other w _ _ _ (ne_off (by omega))).trans h2, (World.cell?_setCell_other w _ _ _ (ne_off (by omega))).trans h3, World.cell?_setCell_same w _ _ h4⟩
theorem MatAt.grown (h : MatAt w b v q e sv) {row : Option Nat} (hg : w.grownBy w' row) (hne : ∀ g, row = some g → b < g) : MatAt w' b v q e sv :=
  h.keep (hg.block b h.lt (fun e => by have := hne b e.symm; omega))
theorem MatAt.below (h : MatAt w b v q e sv) {B : Nat} (hb : Below B w w') (hlt : b < B) : MatAt w' b v q e sv := h.keep (hb.block b hlt)
end
theorem mat_new (w : World) (t : TypeId) : MatAt (w.alloc (.cells #[.bool false, .bool false, .bool false, .slice none 0 0] t)) w.heap.size false false false (.slice none 0 0) :=
  ⟨fun k _ => World.frozen?_alloc_new w _ _ k, World.cell?_alloc_new w _ _ 0, World.cell?_alloc_new w _ _ 1, World.cell?_alloc_new w _ _ 2, World.cell?_alloc_new w _ _ 3⟩

def NewPost (s : ByteArray) (w : World) (e : Ending) (w' : World) : Prop :=
  Below w.heap.size w w' ∧ ((s.size = 0 ∧ e = .returned (.tuple #[.pointer none, .nilIface])) ∨
    (0 < s.size ∧ newL (L s) = none ∧ ∃ T p, e = .returned (.tuple #[.pointer none, .iface T p])) ∨
    (0 < s.size ∧ ∃ M v b, newL (L s) = some M ∧ e = .returned (.tuple #[.pointer (some ⟨b, 0, none⟩), .nilIface]) ∧ w.heap.size ≤ b ∧
      MatAt w' b M.verbose M.quiet M.enable v ∧ Row w' (b + 1) 3 v M.list.length (condCells M.list) ∧ M.list.length ≤ s.size + 2))

theorem beq_str {a b : ByteArray} : (a.toList == b.toList) = true ↔ a = b := by
  rw [beq_iff_eq, toList_L, toList_L]; exact ⟨L_inj, fun h => by rw [h]⟩

set_option maxRecDepth 100000 in
set_option maxHeartbeats 4000000 in
/-- the machine at place i -/
def runAt (p : Bs) (i : Nat) (st : PSt) : Option PSt := if i ≤ p.length then runP (p.drop i) st else some st
theorem runAt_step (p : Bs) (i : Nat) (st : PSt) (h : i ≤ p.length) : runAt p i st = (stepP (p.getD i 45) p[i + 1]? st).bind (runAt p (i + 1)) := by
  unfold runAt
  rw [if_pos h]
  rcases Nat.lt_or_ge i p.length with hlt | hge
  · rw [List.drop_eq_getElem_cons hlt, runP, List.getD, List.getElem?_eq_getElem hlt, List.head?_drop]
    congr 1
    funext st'
    rw [if_pos (by omega)]
  · have : i = p.length := by omega
    subst this
    rw [List.drop_length, runP, List.getD, List.getElem?_eq_none (Nat.le_refl _), List.getElem?_eq_none (by omega)]
    simp only [Option.getD_none]
    cases stepP 45 none st with
    | none => rfl
    | some st' => rw [Option.bind_some, if_neg (by omega)]
def NRel (p : ByteArray) (w : World) (v q e : Bool) (R : Option PSt) (rv bv sv wv iv : Value) (wr : World) : Prop :=
  ∃ (i a : Nat) (res : Bool) (bits : Int) (seg : Bs) (wid : Nat) (list : List Cond) (lv : Value), iv = .int .i64 i ∧ i ≤ p.size + 1 ∧ rv = .bool res ∧ bv = .int .u64 bits ∧ sv = .int .i64 a ∧ a ≤ i ∧ wv = .int .i64 (wid : Int) ∧ (wid = 1 ∨ wid = 4) ∧
    Hid (seg.length = i - a) ∧ Hid (a < i → seg.head? = (L p)[a]?) ∧ Hid (runAt (L p) i ⟨res, bits, seg, wid, decide (0 < i), list⟩ = R) ∧ Hid (MatAt wr w.heap.size v q e lv) ∧ Hid (Row wr (w.heap.size + 1) 3 lv list.length (condCells list)) ∧ Hid (Below w.heap.size w wr) ∧ Hid (list.length ≤ i)

/-- the prefixes, as the loops meet them -/
theorem L_head (p : ByteArray) (h : 0 < p.size) : ∃ c r, L p = c :: r ∧ bt p 0 = (c.toNat : Int) ∧ r = L (p.extract 1 p.size) := by
  obtain ⟨c, h1, h2⟩ := L_cons p h
  exact ⟨c, _, h1, h2, rfl⟩
theorem u8_lit {c : UInt8} {p : ByteArray} (h : bt p 0 = (c.toNat : Int)) (n : Nat) (hn : n < 256) : (bt p 0 == (n : Int)) = (c == UInt8.ofNat n) := by
  rw [h, Bool.eq_iff_iff, beq_iff_eq, beq_iff_eq]; exact u8_is hn
theorem dropV_go {p : ByteArray} (h : 0 < p.size) (hv : (bt p 0 == 118) = true) (v q : Bool) : dropV (L p) v q = if (L (p.extract 1 p.size)).isEmpty then none else dropV (L (p.extract 1 p.size)) true false := by
  obtain ⟨c, r, h1, h2, rfl⟩ := L_head p h
  have hc : (c == 118) = true := by rw [← hv]; exact (u8_lit h2 118 (by omega)).symm
  rw [h1, dropV, if_pos hc]
theorem dropV_stop {p : ByteArray} (h : 0 < p.size) (hv : (bt p 0 == 118) = false) (v q : Bool) : dropV (L p) v q = some (L p, v, q) := by
  obtain ⟨c, r, h1, h2, rfl⟩ := L_head p h
  have hc : (c == 118) = false := by rw [← hv]; exact (u8_lit h2 118 (by omega)).symm
  rw [h1, dropV, hc]; rfl
theorem dropN_go {p : ByteArray} (h : 0 < p.size) (hv : (bt p 0 == 33) = true) (e : Bool) : dropN (L p) e = if (L (p.extract 1 p.size)).isEmpty then none else dropN (L (p.extract 1 p.size)) (!e) := by
  obtain ⟨c, r, h1, h2, rfl⟩ := L_head p h
  have hc : (c == 33) = true := by rw [← hv]; exact (u8_lit h2 33 (by omega)).symm
  rw [h1, dropN, if_pos hc]
theorem dropN_stop {p : ByteArray} (h : 0 < p.size) (hv : (bt p 0 == 33) = false) (e : Bool) : dropN (L p) e = some (L p, e) := by
  obtain ⟨c, r, h1, h2, rfl⟩ := L_head p h
  have hc : (c == 33) = false := by rw [← hv]; exact (u8_lit h2 33 (by omega)).symm
  rw [h1, dropN, hc]; rfl
theorem newL_q {s : ByteArray} (h : 0 < s.size) (hv : (bt s 0 == 113) = true) : newL (L s) = if (L (s.extract 1 s.size)).isEmpty then none else prefV (L (s.extract 1 s.size)) true := by
  obtain ⟨c, r, h1, h2, rfl⟩ := L_head s h
  have hc : (c == 113) = true := by rw [← hv]; exact (u8_lit h2 113 (by omega)).symm
  rw [h1, newL, if_pos hc]
theorem newL_noq {s : ByteArray} (h : 0 < s.size) (hv : (bt s 0 == 113) = false) : newL (L s) = prefV (L s) false := by
  obtain ⟨c, r, h1, h2, rfl⟩ := L_head s h
  have hc : (c == 113) = false := by rw [← hv]; exact (u8_lit h2 113 (by omega)).symm
  rw [h1, newL, hc]; rfl
theorem L_isEmpty (p : ByteArray) : (L p).isEmpty = decide (p.size = 0) := by
  have h := L_len p
  by_cases h0 : p.size = 0
  · rw [L_nil p h0]; simp [h0]
  · cases hl : L p with
    | nil => rw [hl] at h; simp at h; omega
    | cons a l => simp [h0]
end Go.Proofs.Ytnjdckhaecdldaa
