/-
  The contracts of (*Buffer).Insert, Delete and Replace: an edit more in the queue. For every edit that lies within the text, and fewer than 4294967296 edits.
-/
import Derived.Test.YtboiigeomgdkjaaProg
import Derived.Test.YtboiigeomgdkjaaEditPlain
import Derived.Test.YtboiigeomgdkjaaRow
import Derived.Lib.Hide
import Derived.Outline
import Derived.Laws.AppendOwn
set_option linter.unusedVariables false
set_option maxHeartbeats 1000000
set_option maxRecDepth 100000
namespace Go.Proofs.Ytboiigeomgdkjaa
open Go.RowKit Go.PlainAid Go.Lib

theorem wpList_append_own2 {P : Program} {ops : Array Oper} {rest : List Oper} {o : Oper} {a : Act} {Q : Exit → Act → World → Prop} (w : World) (hgd : o.guard = none) (s x : Operand) (t : TypeId)
    (ho : o.op = .call { callee := .builtin .append, args := #[s, x], argTypes := #[t, t] })
    (base : Nat) (e : TypeId) (i : TypeInfo) (z : Value) (size bytes : Nat) (ht : P.underlying t = some (.slice e)) (hi : P.info? e = some i) (hz : i.zero = some z)
    (hsize : i.size = size) (hby : i.bytes = bytes) (hzs : z.cells.size = size) (hsz : 0 < size)
    (v : Value) (n : Nat) (xs : List Value) (hs : a.eval s = v) (hown : w.ownsRow base e size v n xs)
    (ad : Addr) (m c : Nat) (news : List Value) (hx : a.eval x = .slice (some ad) m c) (hl : news.length = m * size) (hnews : ∀ j u, news[j]? = some u → w.cell? (ad.add j) = some u) (h1 : ∀ u ∈ news, u.oneCell' = true)
    (h63 : n + m ≤ maxLen) (hbytes : (n + m) * bytes ≤ 140737488355328) (hbase : base ≤ w.heap.size)
    (h : ∀ v' w', w'.ownsRow base e size v' (n + m) (xs ++ news) → w.grownBy w' v.ownBlock → (v'.ownBlock = v.ownBlock ∨ v'.ownBlock = some w.heap.size) → wpList P ops Q rest (a.put o.dst v') w') : wpList P ops Q (o :: rest) a w := by
  refine wpList_plain hgd fun K hK' => ?_
  obtain ⟨v1, w1, hr1, k2, k3, _⟩ := run_append_own (P := P) w base t o.type e i z size bytes ht hi hz hsize hby hzs hsz v n xs hown ad m c news hl hnews h1 h63 hbytes hbase
  obtain ⟨v2, w2, hr2, _, _, k4⟩ := run_append_row (P := P) w base t t o.type e i z size bytes ht hi hz hsize hby hzs (Row.own hown) _ m news (Src.ofSlice w ht ad m c news hl hnews h1) h63 hbytes hbase
  rw [hr1] at hr2
  injection hr2 with e1 e2
  subst e1 e2
  unfold Oper.wp
  simp [execOp, ho, resolve, invoke, builtin, hs, hx, hr1, Result.andThen]
  exact hK' _ _ (h v1 w1 k2 k3 k4)
theorem infoEdit : (Try.prog.info? 61).map (fun i => (i.zero, i.size, i.bytes)) = some (some (.agg #[.int .i64 0, .int .i64 0, .string ByteArray.empty]), 3, 32) := by kernel_rfl
/-- a buffer: its block, its text, its queue -/
def BufAt (w : World) (B p : Nat) (ov : Value) (d : ByteArray) (l : List St) : Prop :=
  ∃ v, w.heap[p]? = some (.cells #[ov, v] 56 (0, 0)) ∧ B ≤ p ∧ Row w B 1 ov d.size (byteCells d) ∧ w.ownsRow B 61 3 v l.length (stepCells l) ∧ ov.ownBlock ≠ some p ∧ v.ownBlock ≠ some p ∧ (v.ownBlock = none ∨ ov.ownBlock ≠ v.ownBlock)
theorem owns_shape {w : World} {B size n : Nat} {e : TypeId} {v : Value} {xs : List Value} (h : w.ownsRow B e size v n xs) : ∃ a c, v = .slice a n c := by
  rcases h.2 with ⟨rfl, rfl⟩ | ⟨g, cap, cur, rfl, _⟩
  · exact ⟨_, _, rfl⟩
  · exact ⟨_, _, rfl⟩
theorem owns_keep {w w' : World} {B size n : Nat} {e : TypeId} {v : Value} {xs : List Value} (h : w.ownsRow B e size v n xs) (hk : ∀ g, v.ownBlock = some g → w'.heap[g]? = w.heap[g]?) : w'.ownsRow B e size v n xs := by
  refine ⟨h.1, ?_⟩
  rcases h.2 with h2 | ⟨g, cap, cur, rfl, hb, hg, rest⟩
  · exact .inl h2
  · exact .inr ⟨g, cap, cur, rfl, hb, (hk g rfl).trans hg, rest⟩
theorem owns_blk {w : World} {B size n : Nat} {e : TypeId} {v : Value} {xs : List Value} (h : w.ownsRow B e size v n xs) : ∀ g, v.ownBlock = some g → B ≤ g := fun g hg => (h.lt g hg).1
/-- a block that is neither the buffer's nor its queue's -/
def Spare (p : Nat) (w : World) (r : Nat) : Prop := r < w.heap.size ∧ r ≠ p ∧ ∀ v, w.cell? ⟨p, 1, none⟩ = some v → v.ownBlock ≠ some r
def Frm (p : Nat) (w w' : World) : Prop := ∀ r, Spare p w r → Spare p w' r ∧ w'.heap[r]? = w.heap[r]?
theorem Frm.refl (p : Nat) (w : World) : Frm p w w := fun _ h => ⟨h, rfl⟩
theorem Frm.trans {p : Nat} {w w1 w2 : World} (h1 : Frm p w w1) (h2 : Frm p w1 w2) : Frm p w w2 := fun r h => ⟨(h2 r (h1 r h).1).1, (h2 r (h1 r h).1).2.trans (h1 r h).2⟩
theorem Frm.old {p : Nat} {w w' : World} (hp : p < w.heap.size) (hs : w.heap.size ≤ w'.heap.size) (hk : ∀ k, k < w.heap.size → w'.heap[k]? = w.heap[k]?) : Frm p w w' := fun r h =>
  ⟨⟨Nat.lt_of_lt_of_le h.1 hs, h.2.1, fun v hv => h.2.2 v ((World.cell?_of_block (w := w) (a := ⟨p, 1, none⟩) (hk p hp)).symm.trans hv)⟩, hk r h.1⟩
theorem Frm.alloc (p : Nat) (w : World) (hp : p < w.heap.size) (o : Obj) : Frm p w (w.alloc o) := Frm.old hp (by simp) (fun k hk => Below.heap_alloc w o k hk)
/-- what an edit more leaves -/
def BufPost (w : World) (B p : Nat) (ov : Value) (d : ByteArray) (l : List St) (e : Ending) (w' : World) : Prop := e = .returned (.tuple #[]) ∧ BufAt w' B p ov d l ∧ Below B w w' ∧ Frm p w w'
theorem BufAt.keep {w w' : World} {B p : Nat} {ov : Value} {d : ByteArray} {l : List St} (h : BufAt w B p ov d l) (hs : w.heap.size ≤ w'.heap.size) (hk : ∀ k, k < w.heap.size → w'.heap[k]? = w.heap[k]?) : BufAt w' B p ov d l := by
  obtain ⟨v, h1, h2, h3, h4, h5⟩ := h
  have hp : p < w.heap.size := by
    rcases Nat.lt_or_ge p w.heap.size with h | h
    · exact h
    · rw [Array.getElem?_eq_none h] at h1; cases h1
  exact ⟨v, (hk p hp).trans h1, h2, h3.keep hs (fun k _ _ hl => hk k hl), owns_keep h4 (fun g hg => hk g (h4.lt g hg).2), h5⟩
theorem cells3 (w : World) (T : TypeId) (s x : Int) (t : ByteArray) : ∀ (j : Nat) (u : Value), (stC (s, x, t))[j]? = some u → (w.alloc (.cells #[.int .i64 s, .int .i64 x, .string t] T)).cell? ((⟨w.heap.size, 0, none⟩ : Addr).add j) = some u := by
  intro j u hu
  rw [Addr.add_lit, cell_of_row _ _ _ _ _ _ (heap_alloc_new w _), Nat.zero_add]
  simpa [stC] using hu
theorem stC_one (z : St) : ∀ u ∈ stC z, u.oneCell' = true := by intro u hu; simp [stC] at hu; rcases hu with rfl | rfl | rfl <;> rfl
/-- behind the store into the queue's field -/
theorem buf_end {w w1 : World} {B p : Nat} {ov v v' : Value} {d : ByteArray} {l : List St} {z : St} (hg : w.heap[p]? = some (.cells #[ov, v] 56 (0, 0))) (hBp : B ≤ p) (ho : Row w B 1 ov d.size (byteCells d)) (hv : w.ownsRow B 61 3 v l.length (stepCells l)) (n1 : ov.ownBlock ≠ some p) (n2 : v.ownBlock ≠ some p) (n3 : v.ownBlock = none ∨ ov.ownBlock ≠ v.ownBlock)
    (o : Obj) (h1 : w1.ownsRow B 61 3 v' (l.length + 1) (stepCells l ++ stC z)) (h2 : (w.alloc o).grownBy w1 v.ownBlock) (h3 : v'.ownBlock = v.ownBlock ∨ v'.ownBlock = some (w.heap.size + 1)) :
    BufPost w B p ov d (l ++ [z]) (.returned (.tuple #[])) (w1.setCell ⟨p, 1, none⟩ v') := by
  have hp : p < w.heap.size := by
    rcases Nat.lt_or_ge p w.heap.size with h | h
    · exact h
    · rw [Array.getElem?_eq_none h] at hg; cases hg
  have hB : B ≤ w.heap.size := by omega
  have hg1 : w1.heap[p]? = some (.cells #[ov, v] 56 (0, 0)) := (h2.block p (by simp; omega) (fun e => n2 e.symm)).trans ((Below.heap_alloc w o p hp).trans hg)
  have m2 : v'.ownBlock ≠ some p := by
    rcases h3 with h3 | h3
    · rw [h3]; exact n2
    · rw [h3]; intro e; injection e with e; omega
  have m3 : v'.ownBlock = none ∨ ov.ownBlock ≠ v'.ownBlock := by
    rcases h3 with h3 | h3
    · rw [h3]; exact n3
    · rw [h3]; exact .inr fun e => by have := ho.blt _ e; omega
  have ho1 : Row w1 B 1 ov d.size (byteCells d) := by
    refine ho.keep (Nat.le_trans (by simp) h2.size) fun g hgv _ hlt => (h2.block g (by simp; omega) (fun e => ?_)).trans (Below.heap_alloc w o g hlt)
    rcases n3 with n3 | n3
    · rw [n3] at e; cases e
    · exact n3 (hgv.trans e)
  refine ⟨rfl, ⟨v', ?_, hBp, ho1.setCell n1 _, ?_, n1, m2, m3⟩, ?_⟩
  · simp [World.setCell, Array.getElem?_modify, hg1]
  · rw [List.length_append, stepCells_append, show stepCells [z] = stC z by simp [stepCells]]
    exact owns_keep h1 (fun g hgv => Below.heap_setCell w1 ⟨p, 1, none⟩ v' g (fun e => m2 (by rw [hgv]; exact congrArg some e)))
  · refine ⟨(((Below.refl B w).alloc hB o).grown h2 (by simp; omega) (fun g hgv => (hv.lt g hgv).1)).setCell hBp _, fun r hr => ?_⟩
    have hc : w.cell? ⟨p, 1, none⟩ = some v := cell_of_row w p 1 _ _ _ hg
    have hvr := hr.2.2 v hc
    have hsz : (w1.setCell ⟨p, 1, none⟩ v').heap.size = w1.heap.size := by simp [World.setCell]
    have hs1 := h2.size
    have hs2 : (w.alloc o).heap.size = w.heap.size + 1 := by simp
    rw [hs2] at hs1
    refine ⟨⟨by have := hr.1; omega, hr.2.1, fun u hu => ?_⟩, ?_⟩
    · rw [World.cell?_setCell_same w1 _ _ (cell_of_row w1 p 1 _ _ _ hg1 : w1.cell? ⟨p, 1, none⟩ = some v)] at hu
      cases hu
      rcases h3 with h3 | h3
      · rw [h3]; exact hvr
      · rw [h3]; intro e; injection e with e; have := hr.1; omega
    · exact (Below.heap_setCell w1 ⟨p, 1, none⟩ v' r (fun e => hr.2.1 e)).trans ((h2.block r (by simp; have := hr.1; omega) (fun e => hvr e.symm)).trans (Below.heap_alloc w o r hr.1))
theorem replace_any (w : World) (B p : Nat) (ov : Value) (d : ByteArray) (l : List St) (h : BufAt w B p ov d l) (hl : l.length ≤ 4294967295) (hd : d.size ≤ 4294967296) (s x : Int) (t : ByteArray) (hs : 0 ≤ s) (hsx : s ≤ x) (hx : x ≤ d.size) :
    Calls Try.prog 33 #[.pointer (some ⟨p, 0, none⟩), .int .i64 s, .int .i64 x, .string t] w (BufPost w B p ov d (l ++ [(s, x, t)])) := by
  obtain ⟨i0, hi, hz0, hz1, hz2⟩ := info_parts infoEdit
  obtain ⟨v, hg, hBp, ho, hv, n1, n2, n3⟩ := h
  have c0 : w.cell? ⟨p, 0, none⟩ = some ov := cell_of_row w p 0 _ _ _ hg
  have c1 : w.cell? ⟨p, 1, none⟩ = some v := cell_of_row w p 1 _ _ _ hg
  have HG := Lib.hid hg
  have HO := Lib.hid ho
  have HV := Lib.hid hv
  have HN := Lib.hid (And.intro n1 (And.intro n2 n3))
  have hp : p < w.heap.size := block_lt_of_cell c0
  have m1 : l.length + 1 ≤ maxLen := by unfold maxLen; omega
  have m2 : (l.length + 1) * 32 ≤ 140737488355328 := by omega
  obtain ⟨oa, oc, rfl⟩ := ho.shape
  clear hg ho hv n1 n2 n3
  go_enter Try.func33, Try.ntmps33
  obtain ⟨va, vc, rfl⟩ := owns_shape HV.out
  go_wp2_with (at_builtin; refine wpList_append_own2 _ rfl (.tmp 29) (.tmp 34) 54 rfl B 61 i0 _ 3 32 Try.underlying54 hi hz0 hz1 hz2 rfl (by decide) (.slice va l.length vc) l.length (stepCells l) rfl (HV.out.alloc _) ⟨w.heap.size, 0, none⟩ 1 1 (stC (s, x, t)) rfl rfl (cells3 w _ _ _ _) (stC_one _) m1 m2 (by simp; omega) ?_; intro v' w1 k1 k2 k3; obtain ⟨a', c', rfl⟩ := owns_shape k1; have K1 := Lib.hid k1; have K2 := Lib.hid k2; have K3 := Lib.hid k3; have hg1 := (k2.block p (by simp; omega) (fun e => HN.out.2.1 e.symm)).trans ((Below.heap_alloc w _ p hp).trans HG.out); have hc1 := cell_of_row w1 p 1 _ _ _ hg1; have hf1 := frozen_of_row w1 p 1 _ _ hg1; simp only [List.getElem?_toArray, List.getElem?_cons_zero, List.getElem?_cons_succ] at hc1; clear k1 k2 k3 hg1)
  go_end0
  exact buf_end HG.out hBp HO.out HV.out HN.out.1 HN.out.2.1 HN.out.2.2 _ K1.out K2.out (by simpa using K3.out)
theorem insert_any (w : World) (B p : Nat) (ov : Value) (d : ByteArray) (l : List St) (h : BufAt w B p ov d l) (hl : l.length ≤ 4294967295) (hd : d.size ≤ 4294967296) (s : Int) (t : ByteArray) (hs : 0 ≤ s) (hx : s ≤ d.size) :
    Calls Try.prog 34 #[.pointer (some ⟨p, 0, none⟩), .int .i64 s, .string t] w (BufPost w B p ov d (l ++ [(s, s, t)])) := by
  obtain ⟨i0, hi, hz0, hz1, hz2⟩ := info_parts infoEdit
  obtain ⟨v, hg, hBp, ho, hv, n1, n2, n3⟩ := h
  have c0 : w.cell? ⟨p, 0, none⟩ = some ov := cell_of_row w p 0 _ _ _ hg
  have c1 : w.cell? ⟨p, 1, none⟩ = some v := cell_of_row w p 1 _ _ _ hg
  have HG := Lib.hid hg
  have HO := Lib.hid ho
  have HV := Lib.hid hv
  have HN := Lib.hid (And.intro n1 (And.intro n2 n3))
  have hp : p < w.heap.size := block_lt_of_cell c0
  have m1 : l.length + 1 ≤ maxLen := by unfold maxLen; omega
  have m2 : (l.length + 1) * 32 ≤ 140737488355328 := by omega
  obtain ⟨oa, oc, rfl⟩ := ho.shape
  clear hg ho hv n1 n2 n3
  go_enter Try.func34, Try.ntmps34
  obtain ⟨va, vc, rfl⟩ := owns_shape HV.out
  go_wp2_with (at_builtin; refine wpList_append_own2 _ rfl (.tmp 22) (.tmp 27) 54 rfl B 61 i0 _ 3 32 Try.underlying54 hi hz0 hz1 hz2 rfl (by decide) (.slice va l.length vc) l.length (stepCells l) rfl (HV.out.alloc _) ⟨w.heap.size, 0, none⟩ 1 1 (stC (s, s, t)) rfl rfl (cells3 w _ _ _ _) (stC_one _) m1 m2 (by simp; omega) ?_; intro v' w1 k1 k2 k3; obtain ⟨a', c', rfl⟩ := owns_shape k1; have K1 := Lib.hid k1; have K2 := Lib.hid k2; have K3 := Lib.hid k3; have hg1 := (k2.block p (by simp; omega) (fun e => HN.out.2.1 e.symm)).trans ((Below.heap_alloc w _ p hp).trans HG.out); have hc1 := cell_of_row w1 p 1 _ _ _ hg1; have hf1 := frozen_of_row w1 p 1 _ _ hg1; simp only [List.getElem?_toArray, List.getElem?_cons_zero, List.getElem?_cons_succ] at hc1; clear k1 k2 k3 hg1)
  go_end0
  exact buf_end HG.out hBp HO.out HV.out HN.out.1 HN.out.2.1 HN.out.2.2 _ K1.out K2.out (by simpa using K3.out)
theorem delete_any (w : World) (B p : Nat) (ov : Value) (d : ByteArray) (l : List St) (h : BufAt w B p ov d l) (hl : l.length ≤ 4294967295) (hd : d.size ≤ 4294967296) (s x : Int) (hs : 0 ≤ s) (hsx : s ≤ x) (hx : x ≤ d.size) :
    Calls Try.prog 35 #[.pointer (some ⟨p, 0, none⟩), .int .i64 s, .int .i64 x] w (BufPost w B p ov d (l ++ [(s, x, ⟨#[]⟩)])) := by
  obtain ⟨i0, hi, hz0, hz1, hz2⟩ := info_parts infoEdit
  obtain ⟨v, hg, hBp, ho, hv, n1, n2, n3⟩ := h
  have c0 : w.cell? ⟨p, 0, none⟩ = some ov := cell_of_row w p 0 _ _ _ hg
  have c1 : w.cell? ⟨p, 1, none⟩ = some v := cell_of_row w p 1 _ _ _ hg
  have HG := Lib.hid hg
  have HO := Lib.hid ho
  have HV := Lib.hid hv
  have HN := Lib.hid (And.intro n1 (And.intro n2 n3))
  have hp : p < w.heap.size := block_lt_of_cell c0
  have m1 : l.length + 1 ≤ maxLen := by unfold maxLen; omega
  have m2 : (l.length + 1) * 32 ≤ 140737488355328 := by omega
  obtain ⟨oa, oc, rfl⟩ := ho.shape
  clear hg ho hv n1 n2 n3
  go_enter Try.func35, Try.ntmps35
  obtain ⟨va, vc, rfl⟩ := owns_shape HV.out
  go_wp2_with (at_builtin; refine wpList_append_own2 _ rfl (.tmp 27) (.tmp 31) 54 rfl B 61 i0 _ 3 32 Try.underlying54 hi hz0 hz1 hz2 rfl (by decide) (.slice va l.length vc) l.length (stepCells l) rfl (HV.out.alloc _) ⟨w.heap.size, 0, none⟩ 1 1 (stC (s, x, ⟨#[]⟩)) rfl rfl (cells3 w _ _ _ _) (stC_one _) m1 m2 (by simp; omega) ?_; intro v' w1 k1 k2 k3; obtain ⟨a', c', rfl⟩ := owns_shape k1; have K1 := Lib.hid k1; have K2 := Lib.hid k2; have K3 := Lib.hid k3; have hg1 := (k2.block p (by simp; omega) (fun e => HN.out.2.1 e.symm)).trans ((Below.heap_alloc w _ p hp).trans HG.out); have hc1 := cell_of_row w1 p 1 _ _ _ hg1; have hf1 := frozen_of_row w1 p 1 _ _ hg1; simp only [List.getElem?_toArray, List.getElem?_cons_zero, List.getElem?_cons_succ] at hc1; clear k1 k2 k3 hg1)
  go_end0
  exact buf_end HG.out hBp HO.out HV.out HN.out.1 HN.out.2.1 HN.out.2.2 _ K1.out K2.out (by simpa using K3.out)
end Go.Proofs.Ytboiigeomgdkjaa
