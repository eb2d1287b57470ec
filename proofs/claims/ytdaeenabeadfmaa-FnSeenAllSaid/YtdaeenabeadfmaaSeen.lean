/-
  The contract of (*dedup).Seen over its lock and map. For every state and number.
-/
import Derived.Test.YtdaeenabeadfmaaLockD
import Derived.Test.YtdaeenabeadfmaaMapBool
import Derived.Test.YtdaeenabeadfmaaRow
import Derived.WalkSpells
import Derived.ProofKit
import Derived.Outline
set_option linter.unusedVariables false
set_option maxHeartbeats 2000000
set_option maxRecDepth 100000
namespace Go.Proofs.Ytdaeenabeadfmaa
open Go.RowKit Go.Maps Go.MuLone

abbrev DU := DataW Unit
def Told (D : DU) (l : List Int) : Prop := IsMap D ∧ ∀ x : Int, D.atKey (.int .u64 x) (.lit (.bool false)) = .lit (.bool (decide (x ∈ l)))
def DMap (w : World) (d n : Nat) (l : List Int) (mb : Nat) : Prop := w.cell? ⟨d, 514, none⟩ = some (.map (some mb)) ∧ d < mb ∧ ∃ D : DU, w.ownsMap Try.prog 26 (plainElem Try.prog 4) mb n D ∧ Told D l
def DSt (w : World) (d n : Nat) (l : List Int) : Prop :=
  d < w.heap.size ∧ w.cell? ⟨d, 512, none⟩ = some (.int .i32 0) ∧ w.frozen? ⟨d, 512, none⟩ = false ∧ w.frozen? ⟨d, 514, none⟩ = false ∧ ((w.cell? ⟨d, 514, none⟩ = some (.map none) ∧ l = []) ∨ ∃ mb, DMap w d n l mb)
def Fre (d : Nat) (w : World) (g : Nat) : Prop := g < w.heap.size ∧ g ≠ d ∧ ∀ mb, w.cell? ⟨d, 514, none⟩ = some (.map (some mb)) → mb ≠ g
def SeenPost (w : World) (d n : Nat) (l : List Int) (h : Int) (e : Ending) (w' : World) : Prop :=
  e = .returned (.bool (decide (h ∈ l))) ∧ DSt w' d (n + 1) (l ++ [h]) ∧ Below d w w' ∧ ∀ g, Fre d w g → Fre d w' g ∧ w'.heap[g]? = w.heap[g]?
theorem told_put {D : DU} {l : List Int} (h : Told D l) (x : Int) : Told (D.put (.int .u64 x) (.lit (.bool true))) (l ++ [x]) := by
  refine ⟨IsMap.put h.1 _ _, fun y => ?_⟩
  by_cases hy : y = x
  · subst hy
    rw [atKey_put_same (k := .int .u64 y) h.1 trivial]
    simp
  · rw [atKey_put_other (fun e => hy (by injection e)), h.2 y]
    congr 2
    simp [hy]
theorem told_nil : Told (.map []) [] := ⟨⟨[], rfl⟩, fun x => by simp [DataW.atKey]⟩
theorem zeroB (w : World) : (zeroValue 4).run Try.prog w = .ok (.bool false) w := by kernel_rfl
theorem own_lt {w : World} {k : TypeId} {R : Value → Option (DU × List MemPlace)} {b n : Nat} {D : DU} (h : w.ownsMap Try.prog k R b n D) : b < w.heap.size := by
  obtain ⟨es, c, hb, _⟩ := h
  rcases Nat.lt_or_ge b w.heap.size with h | h
  · exact h
  · rw [Array.getElem?_eq_none h] at hb; cases hb
theorem own_keep {w w' : World} {k : TypeId} {R : Value → Option (DU × List MemPlace)} {b n : Nat} {D : DU} (h : w.ownsMap Try.prog k R b n D) (hk : w'.heap[b]? = w.heap[b]?) : w'.ownsMap Try.prog k R b n D := by
  obtain ⟨es, c, hb, rest⟩ := h
  exact ⟨es, c, hk.trans hb, rest⟩
/-- behind the store into the map, and the lock let go -/
theorem seen_end {w w2 w3 : World} {d n mb : Nat} {l : List Int} {h : Int} {D : DU} (hd : d < w.heap.size) (h5 : w2.cell? ⟨d, 514, none⟩ = some (.map (some mb))) (hdm : d < mb) (c5 : w2.cell? ⟨d, 512, none⟩ = some (.int .i32 1)) (f5 : w2.frozen? ⟨d, 512, none⟩ = false) (g5 : w2.frozen? ⟨d, 514, none⟩ = false)
    (ho : w3.ownsMap Try.prog 26 (plainElem Try.prog 4) mb (n + 1) (D.put (.int .u64 h) (.lit (.bool true)))) (hT : Told D l) (hg : w2.grownBy w3 (some mb)) (hb : Below d w w2) (hfr : ∀ g, Fre d w g → g ≠ mb ∧ w2.heap[g]? = w.heap[g]?) :
    w3.cell? ⟨d, 512, none⟩ = some (.int .i32 1) ∧ w3.frozen? ⟨d, 512, none⟩ = false ∧ SeenPost w d n l h (.returned (.bool (decide (h ∈ l)))) (w3.setCell ⟨d, 512, none⟩ (.int .i32 0)) := by
  have hd2 : d < w2.heap.size := Nat.lt_of_lt_of_le hd hb.size
  have hk : ∀ j, w3.cell? ⟨d, j, none⟩ = w2.cell? ⟨d, j, none⟩ := fun j => World.cell?_of_block (w := w2) (a := ⟨d, j, none⟩) (hg.block d hd2 (fun e => by injection e with e; omega))
  have hf : ∀ j, w3.frozen? ⟨d, j, none⟩ = w2.frozen? ⟨d, j, none⟩ := fun j => World.frozen?_of_block (w := w2) (a := ⟨d, j, none⟩) (hg.block d hd2 (fun e => by injection e with e; omega))
  have c3 := (hk 512).trans c5
  have m3 := (hk 514).trans h5
  have hsz : (w3.setCell ⟨d, 512, none⟩ (.int .i32 0)).heap.size = w3.heap.size := by simp [World.setCell]
  have hne : (⟨d, 512, none⟩ : Addr) ≠ ⟨d, 514, none⟩ := by simp
  have m4 : (w3.setCell ⟨d, 512, none⟩ (.int .i32 0)).cell? ⟨d, 514, none⟩ = some (.map (some mb)) := (World.cell?_setCell_other _ _ _ _ hne).trans m3
  refine ⟨c3, (hf 512).trans f5, rfl, ⟨by rw [hsz]; exact Nat.lt_of_lt_of_le hd2 hg.size, World.cell?_setCell_same _ _ _ c3, by rw [World.frozen?_setCell]; exact (hf 512).trans f5, by rw [World.frozen?_setCell]; exact (hf 514).trans g5, .inr ⟨mb, m4, hdm, _, own_keep ho (Below.heap_setCell w3 ⟨d, 512, none⟩ _ mb (fun e => by have e' : mb = d := e; omega)), told_put hT h⟩⟩, ?_, fun g hgf => ?_⟩
  · exact ((hb.grown hg (Nat.le_of_lt hd2) (fun q hq => by cases hq; omega)).setCell (Nat.le_refl _) _)
  · obtain ⟨g1, g2⟩ := hfr g hgf
    have hgs := Nat.lt_of_lt_of_le hgf.1 hb.size
    refine ⟨⟨by rw [hsz]; exact Nat.lt_of_lt_of_le hgs hg.size, hgf.2.1, fun q hq => ?_⟩, ?_⟩
    · rw [m4] at hq; cases hq; exact fun e => g1 e.symm
    · exact (Below.heap_setCell w3 ⟨d, 512, none⟩ _ g (fun e => hgf.2.1 e)).trans ((hg.block g hgs (fun e => g1 (by injection e))).trans g2)
theorem seen_some (w : World) (d n mb : Nat) (l : List Int) (h : Int) (wh : (Lit.int .u64 h).wf = true) (hn : n ≤ 4294967296) (hd : d < w.heap.size) (c5 : w.cell? ⟨d, 512, none⟩ = some (.int .i32 0)) (f5 : w.frozen? ⟨d, 512, none⟩ = false) (g5 : w.frozen? ⟨d, 514, none⟩ = false) (hm : DMap w d n l mb) :
    Calls Try.prog 12 #[.pointer (some ⟨d, 0, none⟩), .int .u64 h] w (SeenPost w d n l h) := by
  obtain ⟨m5, hdm, D, ho, hT⟩ := hm
  have q40 : ∀ (w : World) (r : Option Nat), (binOp .eql 40 (.map r) (.map none)).run Try.prog w = .ok (.bool r.isNone) w := fun w r => run_eql_map_nil w _ _ _ r Try.underlying40
  obtain ⟨w1, hw1⟩ : ∃ w1, w1 = w.setCell ⟨d, 512, none⟩ (.int .i32 1) := ⟨_, rfl⟩
  have hne : (⟨d, 512, none⟩ : Addr) ≠ ⟨d, 514, none⟩ := by simp
  have hlk := lock_free muLib ⟨d, 512, none⟩ w c5 f5
  rw [← hw1] at hlk
  have n5 : w1.cell? ⟨d, 514, none⟩ = some (.map (some mb)) := by rw [hw1]; exact (World.cell?_setCell_other _ _ _ _ hne).trans m5
  have c1 : w1.cell? ⟨d, 512, none⟩ = some (.int .i32 1) := by rw [hw1]; exact World.cell?_setCell_same _ _ _ c5
  have f1 : w1.frozen? ⟨d, 512, none⟩ = false := by rw [hw1, World.frozen?_setCell]; exact f5
  have f2 : w1.frozen? ⟨d, 514, none⟩ = false := by rw [hw1, World.frozen?_setCell]; exact g5
  have ho1 := Lib.hid (show w1.ownsMap Try.prog 26 (plainElem Try.prog 4) mb n D by rw [hw1]; exact own_keep ho (Below.heap_setCell w ⟨d, 512, none⟩ _ mb (fun e => by have e' : mb = d := e; omega)))
  have HB := Lib.hid (show Below d w w1 by rw [hw1]; exact (Below.refl d w).setCell (p := ⟨d, 512, none⟩) (Nat.le_refl d) _)
  have HF := Lib.hid (show ∀ g, Fre d w g → g ≠ mb ∧ w1.heap[g]? = w.heap[g]? from fun g hg => ⟨fun e => hg.2.2 mb m5 e.symm, by rw [hw1]; exact Below.heap_setCell w ⟨d, 512, none⟩ _ g (fun e => hg.2.1 e)⟩)
  have HT := Lib.hid hT
  have hky := keyOf_int_mk (P := Try.prog) Try.underlying26 wh
  have HK := Lib.hid hky
  have HD := Lib.hid hd
  have HC1 := Lib.hid c1
  have HF1 := Lib.hid f1
  have HF2 := Lib.hid f2
  have HN5 := Lib.hid n5
  have hnm : n < maxLen := by unfold maxLen; omega
  clear m5 ho hT hky hw1 c5 f5 g5 hd
  go_enter Try.func12, Try.ntmps12
  go_wp2_with fail
  refine hlk.mono ?_
  clear hlk
  rintro e w' ⟨rfl, rfl⟩
  go_wp2_with (first | (at_lookup; refine wpList_lookup_bool _ rfl (.tmp 22) (.tmp 23) 40 rfl 26 4 (int_keyed Try.underlying26) Try.underlying40 Try.underlying4 (zeroB _) mb n D rfl ho1.out (.int .u64 h) (.int .u64 h) rfl HK.out _ (HT.out.2 h) ?_) | (at_mapUpdate; refine wpList_mapUpdate_own _ rfl (.tmp 28) (.tmp 29) _ 40 rfl 26 4 (int_keyed Try.underlying26) Try.underlying40 _ mb n D rfl ho1.out hnm (.int .u64 h) (.bool true) (.int .u64 h) rfl rfl HK.out _ [] (plainElem_bool Try.underlying4 true) ?_; intro w3 ho3 hg3; obtain ⟨e1, e2, e3⟩ := seen_end HD.out HN5.out hdm HC1.out HF1.out HF2.out ho3 HT.out hg3 HB.out HF.out; have HE := Lib.hid e3; clear ho3 hg3 e3))
  refine (unlock_held muLib ⟨d, 512, none⟩ _ e1 e2).mono ?_
  rintro e w' ⟨rfl, rfl⟩
  go_wp2_with fail
  go_ret
  exact HE.out
theorem seen_none (w : World) (d n : Nat) (h : Int) (wh : (Lit.int .u64 h).wf = true) (hd : d < w.heap.size) (c5 : w.cell? ⟨d, 512, none⟩ = some (.int .i32 0)) (f5 : w.frozen? ⟨d, 512, none⟩ = false) (g5 : w.frozen? ⟨d, 514, none⟩ = false) (m5 : w.cell? ⟨d, 514, none⟩ = some (.map none)) :
    Calls Try.prog 12 #[.pointer (some ⟨d, 0, none⟩), .int .u64 h] w (SeenPost w d 0 [] h) := by
  have q40 : ∀ (w : World) (r : Option Nat), (binOp .eql 40 (.map r) (.map none)).run Try.prog w = .ok (.bool r.isNone) w := fun w r => run_eql_map_nil w _ _ _ r Try.underlying40
  have hmm := @run_makeMap Try.prog
  obtain ⟨w1, hw1⟩ : ∃ w1, w1 = w.setCell ⟨d, 512, none⟩ (.int .i32 1) := ⟨_, rfl⟩
  have hne : (⟨d, 512, none⟩ : Addr) ≠ ⟨d, 514, none⟩ := by simp
  have hne' : (⟨d, 514, none⟩ : Addr) ≠ ⟨d, 512, none⟩ := by simp
  have hlk := lock_free muLib ⟨d, 512, none⟩ w c5 f5
  rw [← hw1] at hlk
  have hs1 : w1.heap.size = w.heap.size := by rw [hw1]; simp [World.setCell]
  have n5 : w1.cell? ⟨d, 514, none⟩ = some (.map none) := by rw [hw1]; exact (World.cell?_setCell_other _ _ _ _ hne).trans m5
  have c1 : w1.cell? ⟨d, 512, none⟩ = some (.int .i32 1) := by rw [hw1]; exact World.cell?_setCell_same _ _ _ c5
  have f1 : w1.frozen? ⟨d, 512, none⟩ = false := by rw [hw1, World.frozen?_setCell]; exact f5
  have f2 : w1.frozen? ⟨d, 514, none⟩ = false := by rw [hw1, World.frozen?_setCell]; exact g5
  have hb1 : Below d w w1 := by rw [hw1]; exact (Below.refl d w).setCell (p := ⟨d, 512, none⟩) (Nat.le_refl d) _
  have hd1 : d < w1.heap.size := by omega
  obtain ⟨wm, hwm⟩ : ∃ wm, wm = w1.setCell ⟨d, 514, none⟩ (.map (some w1.heap.size)) := ⟨_, rfl⟩
  have hsm : wm.heap.size = w1.heap.size := by rw [hwm]; simp [World.setCell]
  obtain ⟨w2, hw2⟩ : ∃ w2, w2 = wm.alloc (.map #[] 0) := ⟨_, rfl⟩
  have al : ∀ j, w2.cell? ⟨d, j, none⟩ = wm.cell? ⟨d, j, none⟩ := fun j => by rw [hw2]; exact World.cell?_of_block (w := wm) (a := ⟨d, j, none⟩) (Below.heap_alloc wm _ d (by omega))
  have af : ∀ j, w2.frozen? ⟨d, j, none⟩ = wm.frozen? ⟨d, j, none⟩ := fun j => by rw [hw2]; exact World.frozen?_of_block (w := wm) (a := ⟨d, j, none⟩) (Below.heap_alloc wm _ d (by omega))
  have HN5 : Hid (w2.cell? ⟨d, 514, none⟩ = some (.map (some w1.heap.size))) := Lib.hid (by rw [al, hwm]; exact World.cell?_setCell_same _ _ _ n5)
  have HC1 : Hid (w2.cell? ⟨d, 512, none⟩ = some (.int .i32 1)) := Lib.hid (by rw [al, hwm]; exact (World.cell?_setCell_other _ _ _ _ hne').trans c1)
  have HF1 : Hid (w2.frozen? ⟨d, 512, none⟩ = false) := Lib.hid (by rw [af, hwm, World.frozen?_setCell]; exact f1)
  have HF2 : Hid (w2.frozen? ⟨d, 514, none⟩ = false) := Lib.hid (by rw [af, hwm, World.frozen?_setCell]; exact f2)
  have HB : Hid (Below d w w2) := Lib.hid (by rw [hw2]; refine Below.alloc ?_ (by omega) _; rw [hwm]; exact hb1.setCell (p := ⟨d, 514, none⟩) (Nat.le_refl d) _)
  have HO : Hid (w2.ownsMap Try.prog 26 (plainElem (H := Unit) Try.prog 4) w1.heap.size 0 (.map [])) := Lib.hid (by
    rw [hw2, ← hsm]
    exact World.ownsMap_made wm Try.prog 26 (plainElem Try.prog 4))
  have HF : Hid (∀ g, Fre d w g → g ≠ w1.heap.size ∧ w2.heap[g]? = w.heap[g]?) := Lib.hid (fun g hg => ⟨by have := hg.1; omega, by
    rw [hw2]
    refine (Below.heap_alloc wm _ g (by have := hg.1; omega)).trans ?_
    rw [hwm]
    refine (Below.heap_setCell w1 ⟨d, 514, none⟩ _ g (fun e => hg.2.1 e)).trans ?_
    rw [hw1]; exact Below.heap_setCell w ⟨d, 512, none⟩ _ g (fun e => hg.2.1 e)⟩)
  have hky := keyOf_int_mk (P := Try.prog) Try.underlying26 wh
  have HK := Lib.hid hky
  have HD := Lib.hid hd
  have HD1 := Lib.hid hd1
  have HW2 := Lib.hid (show w2 = (w1.setCell ⟨d, 514, none⟩ (.map (some w1.heap.size))).alloc (.map #[] 0) by rw [hw2, hwm])
  have f514 := f2
  have HT := Lib.hid told_nil
  clear m5 hky hw1 c5 f5 g5 hd hs1 c1 f1 hb1 al af hw2 hsm hwm hd1 hne hne' f514
  go_enter Try.func12, Try.ntmps12
  go_wp2_with fail
  refine hlk.mono ?_
  clear hlk
  rintro e w' ⟨rfl, rfl⟩
  have hdd := HD1.out
  go_wp2_with (first | (at_lookup; rw [← HW2.out]; refine wpList_lookup_bool _ rfl (.tmp 22) (.tmp 23) 40 rfl 26 4 (int_keyed Try.underlying26) Try.underlying40 Try.underlying4 (zeroB _) w'.heap.size 0 (.map []) rfl HO.out (.int .u64 h) (.int .u64 h) rfl HK.out _ (HT.out.2 h) ?_; have n52 := HN5.out; clear n5 f2) | (at_mapUpdate; refine wpList_mapUpdate_own _ rfl (.tmp 28) (.tmp 29) _ 40 rfl 26 4 (int_keyed Try.underlying26) Try.underlying40 _ w'.heap.size 0 (.map []) rfl HO.out (by unfold maxLen; omega) (.int .u64 h) (.bool true) (.int .u64 h) rfl rfl HK.out _ [] (plainElem_bool Try.underlying4 true) ?_; intro w3 ho3 hg3; obtain ⟨e1, e2, e3⟩ := seen_end HD.out HN5.out hdd HC1.out HF1.out HF2.out ho3 HT.out hg3 HB.out HF.out; have HE := Lib.hid e3; clear ho3 hg3 e3))
  refine (unlock_held muLib ⟨d, 512, none⟩ _ e1 e2).mono ?_
  rintro e w' ⟨rfl, rfl⟩
  go_wp2_with fail
  go_ret
  exact HE.out
end Go.Proofs.Ytdaeenabeadfmaa
