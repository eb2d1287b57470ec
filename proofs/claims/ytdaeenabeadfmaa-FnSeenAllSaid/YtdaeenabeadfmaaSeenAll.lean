/-
  The contract of impl.SeenAll. For every list of numbers.
-/
import Derived.Test.YtdaeenabeadfmaaSeen
import Derived.Test.YtdaeenabeadfmaaLossyAll
set_option linter.unusedVariables false
set_option maxHeartbeats 4000000
set_option maxRecDepth 100000
namespace Go.Proofs.Ytdaeenabeadfmaa
open Go.RowKit Go.PlainAid Go.Lib Go.Maps Go.MuLone

theorem seen_any (w : World) (d n : Nat) (l : List Int) (h : Int) (wh : (Lit.int .u64 h).wf = true) (hn : n ≤ 4294967296) (hl : n = l.length) (hs : DSt w d n l) :
    Calls Try.prog 12 #[.pointer (some ⟨d, 0, none⟩), .int .u64 h] w (SeenPost w d n l h) := by
  obtain ⟨hd, c5, f5, g5, ⟨m5, rfl⟩ | ⟨mb, hm⟩⟩ := hs
  · simp at hl
    subst hl
    exact seen_none w d 0 h wh hd c5 f5 g5 m5
  · exact seen_some w d n mb l h wh hn hd c5 f5 g5 hm
theorem seen_door (w : World) (d n : Nat) (l : List Int) (h : Int) (wh : (Lit.int .u64 h).wf = true) (hn : n ≤ 4294967296) (hl : n = l.length) (hs : DSt w d n l) :
    Calls Try.prog 10 #[.pointer (some ⟨d, 0, none⟩), .int .u64 h] w (SeenPost w d n l h) := by
  have HC := Lib.hid (seen_any w d n l h wh hn hl hs)
  clear hs hl
  go_enter Try.func10, Try.ntmps10
  go_wp2_with fail
  refine HC.out.mono ?_
  rintro e w' ⟨rfl, h1⟩
  have H1 := Lib.hid h1
  clear h1
  go_wp2_with fail
  go_ret
  exact ⟨rfl, H1.out⟩
def outL (xs : List Int) (k : Nat) : List Value := (List.range k).map (fun i => Value.bool (decide (xs.getD i 0 ∈ xs.take i)))
theorem outL_succ (xs : List Int) (k : Nat) : outL xs (k + 1) = outL xs k ++ [Value.bool (decide (xs.getD k 0 ∈ xs.take k))] := by
  unfold outL; rw [List.range_succ, List.map_append]; rfl
theorem outL_at (xs : List Int) (n k : Nat) (h : k < n) : (outL xs n)[k]? = some (Value.bool (decide (xs.getD k 0 ∈ xs.take k))) := by
  unfold outL; rw [List.getElem?_map, List.getElem?_range h]; rfl
theorem DSt.grown {w w' : World} {d n : Nat} {l : List Int} {row : Option Nat} (h : DSt w d n l) (hg : w.grownBy w' row) (hr : ∀ g, row = some g → Fre d w g) : DSt w' d n l := by
  obtain ⟨hd, c5, f5, g5, hm⟩ := h
  have hb : w'.heap[d]? = w.heap[d]? := hg.block d hd (fun e => (hr d e.symm).2.1 rfl)
  have hk : ∀ j, w'.cell? ⟨d, j, none⟩ = w.cell? ⟨d, j, none⟩ := fun j => World.cell?_of_block (w := w) (a := ⟨d, j, none⟩) hb
  have hf : ∀ j, w'.frozen? ⟨d, j, none⟩ = w.frozen? ⟨d, j, none⟩ := fun j => World.frozen?_of_block (w := w) (a := ⟨d, j, none⟩) hb
  refine ⟨Nat.lt_of_lt_of_le hd hg.size, (hk _).trans c5, (hf _).trans f5, (hf _).trans g5, ?_⟩
  rcases hm with ⟨m5, e⟩ | ⟨mb, m5, hdm, D, ho, hT⟩
  · exact .inl ⟨(hk _).trans m5, e⟩
  · exact .inr ⟨mb, (hk _).trans m5, hdm, D, own_keep ho (hg.block mb (own_lt ho) (fun e => (hr mb e.symm).2.2 mb m5 rfl)), hT⟩
theorem DSt.fre {w : World} {d n : Nat} {l : List Int} (h : DSt w d n l) : ∀ mb, w.cell? ⟨d, 514, none⟩ = some (.map (some mb)) → mb < w.heap.size := by
  obtain ⟨hd, c5, f5, g5, hm⟩ := h
  intro mb he
  rcases hm with ⟨m5, e⟩ | ⟨mb', m5, hdm, D, ho, hT⟩
  · rw [m5] at he; cases he
  · rw [m5] at he; cases he; exact own_lt ho
def SRel (w : World) (d : Nat) (xs : List Int) (v4 iv : Value) (wr : World) : Prop :=
  ∃ k : Nat, iv = .int .i64 (k : Int) ∧ k ≤ xs.length ∧ DSt wr d k (xs.take k) ∧ Row wr (d + 1) 1 v4 k (outL xs k) ∧ (∀ g, v4.ownBlock = some g → Fre d wr g) ∧ Below d w wr
theorem zeroE : ∃ zc : Array Value, (∀ w, Sem.run Try.prog (zeroValue 42) w = .ok (.agg zc) w) ∧ zc[512]? = some (.int .i32 0) ∧ zc[514]? = some (.map none) :=
  ⟨((Try.prog.info? 42).bind (·.zero)).elim #[] (fun v => v.cells), fun w => by kernel_rfl, by kernel_rfl, by kernel_rfl⟩
theorem DSt.start {zc : Array Value} (w : World) (T : TypeId) (h1 : zc[512]? = some (.int .i32 0)) (h2 : zc[514]? = some (.map none)) : DSt (w.alloc (.cells zc T)) w.heap.size 0 [] := by
  refine ⟨by simp, ?_, frozen_of_row _ _ _ _ _ (heap_alloc_new w _), frozen_of_row _ _ _ _ _ (heap_alloc_new w _), .inl ⟨?_, rfl⟩⟩
  · rw [cell_of_row _ _ _ _ _ _ (heap_alloc_new w _)]; exact h1
  · rw [cell_of_row _ _ _ _ _ _ (heap_alloc_new w _)]; exact h2
def SAllPost (xs : List Int) (w : World) (e : Ending) (w' : World) : Prop :=
  ∃ v : Value, e = .returned v ∧ Row w' w.heap.size 1 v xs.length (outL xs xs.length) ∧ Below w.heap.size w w'
theorem seenAll_any (a : Option Addr) (c : Nat) (xs : List Int) (w : World) (ha : Arg w w.heap.size 1 a xs.length (xs.map (Value.int .u64))) (hl : xs.length ≤ 4294967296) (hw : ∀ x ∈ xs, (Lit.int .u64 x).wf = true) :
    Calls Try.prog 8 #[.slice a xs.length c] w (SAllPost xs w) := by
  obtain ⟨zc, hzv, hz, hy⟩ := zeroE
  obtain ⟨i0, hi, hz0, hz1, hz2⟩ := info_parts infoBool
  have HA := Lib.hid ha
  have HW := Lib.hid hw
  have HZ := Lib.hid hz
  have HY := Lib.hid hy
  clear ha hw hz hy
  have hd1 : (w.alloc (.cells zc 42)).heap.size = w.heap.size + 1 := by simp
  have HS : Hid (SRel w w.heap.size xs (.slice (some ⟨w.heap.size + 1, 0, none⟩) 0 0) (.int .i64 0) ((w.alloc (.cells zc 42)).alloc (.cells #[] 4))) := by
    have hst := DSt.start w 42 HZ.out HY.out
    have hg : (w.alloc (.cells zc 42)).grownBy ((w.alloc (.cells zc 42)).alloc (.cells #[] 4)) none := ⟨rfl, rfl, rfl, by simp, fun k hk _ => Below.heap_alloc _ _ k hk⟩
    have hst2 := hst.grown hg (fun g e => by cases e)
    refine ⟨0, rfl, Nat.zero_le _, hst2, ?_, fun g e => ?_, ((Below.refl _ _).alloc (Nat.le_refl _) _).alloc (by simp) _⟩
    · have := Row.own (World.ownsRow_made (e := 4) (size := 1) (w.alloc (.cells zc 42)) #[] 0 (Nat.le_refl _) (by simp [maxLen]) rfl)
      rw [hd1] at this
      exact this
    · simp [Value.ownBlock] at e
      subst e
      refine ⟨by simp, by omega, fun mb he => ?_⟩
      have := hst2.2.2.2.2
      rcases this with ⟨m5, _⟩ | ⟨mb', m5, _⟩
      · rw [m5] at he; cases he
      · exfalso
        rw [World.cell?_of_block (w := w.alloc (.cells zc 42)) (a := ⟨w.heap.size, 514, none⟩) (Below.heap_alloc _ _ _ (by simp)), cell_of_row _ _ _ _ _ _ (heap_alloc_new w _), HY.out] at m5
        cases m5
  go_enter Try.func8, Try.ntmps8
  go_wp2
  go_loopw [4, 12] (SRel w w.heap.size xs) (fun _ iv _ => xs.length - (intOf iv).toNat)
  case atStart => exact HS.out
  case round =>
    clear HS
    obtain ⟨k, rfl, hk, hds, hrow, hfr, hbel⟩ := hrel
    have HDS := Lib.hid hds
    have HR := Lib.hid hrow
    have HFR := Lib.hid hfr
    have HB := Lib.hid hbel
    obtain ⟨va, vc, rfl⟩ := hrow.shape
    clear hds hrow hfr hbel hzv
    by_cases hlt : k < xs.length
    · obtain ⟨b, o, rfl, hb, hx⟩ := (HA.out.below HB.out).at_ (by omega)
      have hc := hx k (by omega)
      rw [List.getElem?_map, List.getElem?_eq_getElem hlt, Option.map_some] at hc
      have hg := HW.out _ (List.getElem_mem hlt)
      have HX : Hid (xs.getD k 0 = xs[k]) := by show _ = _; rw [List.getD, List.getElem?_eq_getElem hlt]; rfl
      have HTK : Hid (xs.take (k + 1) = xs.take k ++ [xs[k]]) := Lib.hid (List.take_succ_eq_append_getElem hlt)
      obtain ⟨h, hh⟩ : ∃ h, h = xs[k] := ⟨_, rfl⟩
      rw [← hh] at hc hg HX HTK
      have hcall := seen_door wr w.heap.size k (xs.take k) h hg (by omega) (by rw [List.length_take]; omega) HDS.out
      have m1 : k + 1 ≤ maxLen := by unfold maxLen; omega
      have m2 : (k + 1) * 1 ≤ 140737488355328 := by omega
      clear hx hh hg
      go_wp2_with fail
      refine hcall.mono ?_
      clear hcall
      rintro e w2 ⟨rfl, h1, h2, h3⟩
      have H1 := Lib.hid h1
      have H3 := Lib.hid h3
      have HR2 := Lib.hid (HR.out.keep (w' := w2) h2.size (fun g hg _ _ => (h3 g (HFR.out g hg)).2))
      have HB2 := Lib.hid (HB.out.trans h2)
      have hsz : w.heap.size + 1 ≤ w2.heap.size := H1.out.1
      have HOL := Lib.hid (outL_succ xs k)
      generalize hB : decide (h ∈ xs.take k) = bb
      have HBB := Lib.hid hB
      clear h1 h2 h3 hB
      go_wp2_with (at_builtin; refine wpList_append_one w2 rfl (.tmp 16) (.tmp 20) 24 rfl (w.heap.size + 1) 4 i0 (.bool false) 1 Try.underlying24 hi hz0 hz1 hz2 rfl (.slice va k vc) k (outL xs k) HR2.out rfl (.bool bb) rfl rfl m1 m2 hsz (W := w2) (Below.refl _ _) ?_; intro v3 w3 k1 k2 k3 k4; obtain ⟨a3, c3, rfl⟩ := k1.shape; have K1 := Lib.hid k1; have K2 := Lib.hid k2; have K3 := Lib.hid k3; have K4 := Lib.hid k4; clear k1 k2 k3 k4)
      go_roundw
      case rel =>
        have hfr2 : ∀ g, Value.ownBlock (.slice va k vc) = some g → Fre w.heap.size w2 g := fun g hg => (H3.out g (HFR.out g hg)).1
        have hds3 := H1.out.grown K3.out hfr2
        refine ⟨k + 1, by go_num, by omega, by rw [HTK.out]; exact hds3, ?_, fun g hg => ?_, HB2.out.trans (K2.out.mono (by omega))⟩
        · rw [HOL.out, HX.out, HBB.out]; exact K1.out
        · refine ⟨K1.out.blt g hg, fun e => ?_, fun mb hmb e => ?_⟩
          · have := K1.out.blk g hg; omega
          · have hm2 : w2.cell? ⟨w.heap.size, 514, none⟩ = some (.map (some mb)) := by
              rw [← World.cell?_of_block (w := w2) (w' := w3) (a := ⟨w.heap.size, 514, none⟩) (K3.out.block w.heap.size H1.out.1 (fun e => (hfr2 _ e.symm).2.1 rfl))]; exact hmb
            have hlt2 := H1.out.fre mb hm2
            rcases K4.out with k4 | k4
            · exact (hfr2 g (by rw [← k4]; exact hg)).2.2 mb hm2 e
            · rw [k4] at hg; injection hg with hg; omega
      case measure => simp [intOf]; omega
    · obtain rfl : k = xs.length := by omega
      go_wp2
      go_ret
      exact ⟨_, rfl, HR.out.mono (by omega), HB.out⟩
end Go.Proofs.Ytdaeenabeadfmaa
