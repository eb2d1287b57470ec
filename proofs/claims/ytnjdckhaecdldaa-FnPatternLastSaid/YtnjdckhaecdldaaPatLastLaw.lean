/-
  The walk of the law FnPatternLast. For every input.
-/
import Derived.Test.YtnjdckhaecdldaaLastBits
import Derived.Test.YtnjdckhaecdldaaPatWords
import Derived.Deep.RegionHeld3
import Derived.Outline
import Derived.Deep.DeepCutAuto
import Derived.Deep.CutBlock
set_option linter.unusedVariables false
set_option maxHeartbeats 4000000
set_option maxRecDepth 100000
namespace Go.Proofs.Ytnjdckhaecdldaa
open Go.RowKit Go.PlainAid Go.Lib

theorem flip_len {l : Bs} {n : Nat} (h : l.length = n) (q : Nat) : (flip l q).length = n := by unfold flip; rw [List.length_set]; exact h
theorem flip_at (l : Bs) (q : Nat) (hq : q < l.length) (h : l.getD q 0 = 48 ∨ l.getD q 0 = 49) : flip l q = l.set q (if l.getD q 0 = 48 then 49 else 48) := rfl
/-- a cell of a row stored anew -/
theorem Row.store {w : World} {B g o n c : Nat} {xs : List Value} (h : Row w B 1 (.slice (some ⟨g, o, none⟩) n c) n xs) (j : Nat) (hj : j < n) (u : Value) : Row (w.setCell ⟨g, o + j, none⟩ u) B 1 (.slice (some ⟨g, o, none⟩) n c) n (xs.set j u) := by
  obtain ⟨hl, hbk, ao, cap, e, hle, hcm, hg⟩ := h
  injection e with e1 e2 e3
  subst e1 e3
  have hsz : (w.setCell ⟨g, o + j, none⟩ u).heap.size = w.heap.size := by simp [World.setCell]
  refine ⟨by rw [List.length_set]; exact hl, fun q hq => by rw [hsz]; exact hbk q hq, some ⟨g, o, none⟩, c, rfl, hle, hcm, fun hc => ?_⟩
  obtain ⟨g', o', e, hB, hlt, hx, hsp⟩ := hg hc
  injection e with e
  injection e with e1 e2 _
  subst e1 e2
  refine ⟨g, o, rfl, hB, by rw [hsz]; exact hlt, fun i hi => ?_, fun i h1 h2 => ?_⟩
  · rw [List.getElem?_set]
    by_cases he : j = i
    · subst he
      rw [if_pos rfl, if_pos (by omega)]
      have hxj := hx j hi
      rw [List.getElem?_eq_getElem (by omega)] at hxj
      exact World.cell?_setCell_same _ _ _ hxj
    · rw [if_neg he, World.cell?_setCell_other _ _ _ _ (fun e => he (by injection e; omega))]
      exact hx i hi
  · rw [World.frozen?_setCell, World.cell?_setCell_other _ _ _ _ (fun e => by injection e; omega)]
    exact hsp i h1 h2
theorem byte_set (s : Bs) (q : Nat) (c : UInt8) : (byteCells (mkB s)).set q (.int .u8 (c.toNat : Int)) = byteCells (mkB (s.set q c)) := by
  unfold byteCells mkB
  simp only [List.map_set]
theorem keep_call {W w w' : World} (h : Below W.heap.size W w) (h2 : Below w.heap.size w w') : Below W.heap.size W w' := h.trans (h2.mono h.size)
theorem keep_alloc {W w : World} (h : Below W.heap.size W w) (o : Obj) : Below W.heap.size W (w.alloc o) := h.alloc h.size o
theorem keep_set {W w : World} {p : Addr} {v : Value} (h : Below W.heap.size W w) (hp : W.heap.size ≤ p.block) : Below W.heap.size W (w.setCell p v) := h.setCell hp v
theorem bcell2 {W w1 : World} (hb : Below W.heap.size W w1) : (∀ b o, b < W.heap.size → w1.cell? ⟨b, o, none⟩ = W.cell? ⟨b, o, none⟩) ∧ (∀ b o, b < W.heap.size → w1.frozen? ⟨b, o, none⟩ = W.frozen? ⟨b, o, none⟩) :=
  ⟨fun b o h => hb.cell (p := ⟨b, o, none⟩) h, fun b o h => hb.frozen (p := ⟨b, o, none⟩) h⟩
theorem size_up {W w1 : World} (hb : Below W.heap.size W w1) : ∀ k, k < W.heap.size → k < w1.heap.size := fun k h => Nat.lt_of_lt_of_le h hb.size
theorem size3 (g : Nat) {W w1 : World} (hb : Below W.heap.size W w1) (h : g < W.heap.size) : g < w1.heap.size ∧ g < w1.heap.size + 1 ∧ g < w1.heap.size + 1 + 1 := by
  have := hb.size
  omega
abbrev SF (g n : Nat) : Prop := g < n ∧ g < n + 1 ∧ g < n + 2 ∧ g ≠ n ∧ g ≠ n + 1
theorem absorb (g : Nat) {W w1 : World} {G : Prop} (hb : Below W.heap.size W w1) (h : g < W.heap.size) (k : g < w1.heap.size → g < w1.heap.size + 1 → g < w1.heap.size + 2 → g ≠ w1.heap.size → g ≠ w1.heap.size + 1 → G) : G := by
  have := hb.size
  exact k (by omega) (by omega) (by omega) (by omega) (by omega)
theorem absorbA2 {A w1 : World} {o1 o2 : Obj} {G : Prop} (hb : Below ((A.alloc o1).alloc o2).heap.size ((A.alloc o1).alloc o2) w1) (k : SF A.heap.size w1.heap.size ∧ SF (A.heap.size + 1) w1.heap.size → G) : G := by
  refine k ?_
  have := hb.size
  simp at this
  exact ⟨⟨by omega, by omega, by omega, by omega, by omega⟩, by omega, by omega, by omega, by omega, by omega⟩
theorem absorbA1 {A w1 : World} {o1 : Obj} {G : Prop} (hb : Below (A.alloc o1).heap.size (A.alloc o1) w1) (k : SF A.heap.size w1.heap.size → G) : G := by
  refine k ?_
  have := hb.size
  simp at this
  exact ⟨by omega, by omega, by omega, by omega, by omega⟩
theorem keep_drew {W w : World} (h : Below W.heap.size W w) : Below W.heap.size W w.drew := h.drew
abbrev SG (g n : Nat) : Prop := g < n ∧ g < n + 1
theorem ab_a1 {A w1 : World} {o1 : Obj} {G : Prop} (hb : Below (A.alloc o1).heap.size (A.alloc o1) w1) (k : SG A.heap.size w1.heap.size → G) : G := by
  have h : (A.alloc o1).heap.size ≤ w1.heap.size := hb.size
  simp at h
  exact k ⟨by omega, by omega⟩
theorem ab_a2 {A w1 : World} {o1 : Obj} {G : Prop} (hb : Below (A.alloc o1).drew.heap.size (A.alloc o1).drew w1) (k : SG A.heap.size w1.heap.size → G) : G := by
  have h : (A.alloc o1).heap.size ≤ w1.heap.size := hb.size
  simp at h
  exact k ⟨by omega, by omega⟩
theorem ab_b1 {A w1 : World} {o1 o2 : Obj} {G : Prop} (hb : Below ((A.alloc o1).alloc o2).heap.size ((A.alloc o1).alloc o2) w1) (k : SG A.heap.size w1.heap.size ∧ SG (A.heap.size + 1) w1.heap.size → G) : G := by
  have h : ((A.alloc o1).alloc o2).heap.size ≤ w1.heap.size := hb.size
  simp at h
  exact k ⟨⟨by omega, by omega⟩, by omega, by omega⟩
theorem ab_b2 {A w1 : World} {o1 o2 : Obj} {G : Prop} (hb : Below ((A.alloc o1).alloc o2).drew.heap.size ((A.alloc o1).alloc o2).drew w1) (k : SG A.heap.size w1.heap.size ∧ SG (A.heap.size + 1) w1.heap.size → G) : G := by
  have h : ((A.alloc o1).alloc o2).heap.size ≤ w1.heap.size := hb.size
  simp at h
  exact k ⟨⟨by omega, by omega⟩, by omega, by omega⟩
theorem ab_b3 {A w1 : World} {o1 o2 : Obj} {G : Prop} (hb : Below ((A.alloc o1).drew.alloc o2).heap.size ((A.alloc o1).drew.alloc o2) w1) (k : SG A.heap.size w1.heap.size ∧ SG (A.heap.size + 1) w1.heap.size → G) : G := by
  have h : ((A.alloc o1).alloc o2).heap.size ≤ w1.heap.size := hb.size
  simp at h
  exact k ⟨⟨by omega, by omega⟩, by omega, by omega⟩
theorem ab_b4 {A w1 : World} {o1 o2 : Obj} {G : Prop} (hb : Below ((A.alloc o1).drew.alloc o2).drew.heap.size ((A.alloc o1).drew.alloc o2).drew w1) (k : SG A.heap.size w1.heap.size ∧ SG (A.heap.size + 1) w1.heap.size → G) : G := by
  have h : ((A.alloc o1).alloc o2).heap.size ≤ w1.heap.size := hb.size
  simp at h
  exact k ⟨⟨by omega, by omega⟩, by omega, by omega⟩
theorem drew_size (w : World) : w.drew.heap.size = w.heap.size := rfl
theorem ab_t0 {A w1 : World} {g : Nat} {G : Prop} (x : g < A.heap.size) (hb : Below A.heap.size A w1) (k : SG g w1.heap.size → G) : G := by
  have h : A.heap.size ≤ w1.heap.size := hb.size
  try simp at h
  exact k ⟨by omega, by omega⟩
theorem ab_t1 {A w1 : World} {o : Obj} {g : Nat} {G : Prop} (x : g < A.heap.size) (hb : Below (A.alloc o).heap.size (A.alloc o) w1) (k : SG g w1.heap.size → G) : G := by
  have h : (A.alloc o).heap.size ≤ w1.heap.size := hb.size
  try simp at h
  exact k ⟨by omega, by omega⟩
theorem ab_t2 {A w1 : World} {o : Obj} {g : Nat} {G : Prop} (x : g < A.heap.size) (hb : Below (A.alloc o).drew.heap.size (A.alloc o).drew w1) (k : SG g w1.heap.size → G) : G := by
  have h : (A.alloc o).heap.size ≤ w1.heap.size := hb.size
  try simp at h
  exact k ⟨by omega, by omega⟩
theorem ab_t3 {A w1 : World} {g : Nat} {G : Prop} (x : g < A.heap.size) (hb : Below A.drew.heap.size A.drew w1) (k : SG g w1.heap.size → G) : G := by
  have h : A.heap.size ≤ w1.heap.size := hb.size
  try simp at h
  exact k ⟨by omega, by omega⟩
theorem keep_size {W X : World} (h : Below W.heap.size W X) : W.heap.size ≤ X.heap.size := h.size
theorem walkFnPatternLast (w : World) (id : Int) (wi : (Lit.int .u64 id).wf = true) (many : Int) (wm : (Lit.int .i64 many).wf = true) (which : Int) (wh : (Lit.int .i64 which).wf = true) :
    Calls Try.prog 5 #[.int .u64 id, .int .i64 many, .int .i64 which] w fun e w' => e = .returned (.bool true) ∧ Below w.heap.size w w' := by
  obtain ⟨N, rfl, hN⟩ := id_nat wi
  clear wi
  have HN := Lib.hid hN
  have HWH := Lib.hid wh
  obtain ⟨m, hm, hm2⟩ := mod_nat many 60 (by omega)
  have hmod := mod_any many 60 w wm (by omega) (by omega)
  rw [show (((60 : Nat) : Int)) = 60 by rfl] at hm2
  rw [hm2] at hmod
  have hbits := bitsOf_any N (m + 1) w hN (by omega) (by omega)
  rw [show ((m + 1 : Nat) : Int) = 1 + (m : Int) by omega] at hbits
  obtain ⟨q, hq, hq2⟩ := mod_nat which (m + 1) (by omega)
  have hmod2 := fun W => mod_any which ((m + 1 : Nat) : Int) W wh (by omega) (by omega)
  rw [hq2] at hmod2
  simp only [show ((m + 1 : Nat) : Int) = 1 + (m : Int) by omega] at hmod2
  have HL1 := Lib.hid (last_yes N (m + 1) hN (by omega) (by omega))
  have HL2 := Lib.hid (last_no N (m + 1) q hN (by omega) (by omega) hq)
  have HBL := Lib.hid (bitsN_len N (m + 1))
  have HBI := Lib.hid (bin_bitsN N (m + 1))
  have HBA := Lib.hid (bitsN_at N (m + 1) q hq)
  clear hm2 hq2 wm wh hN
  generalize bitsN N (m + 1) = bl at *
  have hsz : (mkB bl).size = m + 1 := by rw [size_mkB, HBL.out]
  have HSL : Hid (L (mkB bl) = bl) := L_mkB bl
  have hcv := fun W => Lib.run_convert_string_bytes (P := Try.prog) W 9 54 5 (mkB bl) Try.underlying9 Try.underlying54 Try.underlying5
  rw [hsz] at hcv
  have HSZ := Lib.hid hsz
  clear hsz
  go_enter Try.func5, Try.ntmps5
  go_wp2_with fail
  refine hmod.mono ?_
  clear hmod
  rintro e w' ⟨rfl, rfl⟩
  go_wp2_with fail
  refine hbits.mono ?_
  clear hbits
  rintro e w1 ⟨rfl, hb1⟩
  have HB1 := Lib.hid hb1
  clear hb1
  go_wp2_with fail
  refine (hmod2 _).mono ?_
  clear hmod2
  rintro e w' ⟨rfl, rfl⟩
  have hq1 : q < (mkB bl).size := by rw [HSZ.out]; exact hq
  have hrow := row_of_bytes w1 5 (mkB bl) w.heap.size HB1.out.size (by rw [HSZ.out]; unfold maxLen; omega)
  have hfz : (Lib.bytesWorld w1 5 (mkB bl)).frozen? ⟨w1.heap.size, q, none⟩ = false := by
    have hn := Lib.bytesWorld_at_new w1 5 (mkB bl)
    have : q < (Lib.bytesCells w1 5 (mkB bl)).size := by simp [Lib.bytesCells]; have : (mkB bl).data.size = (mkB bl).size := rfl; omega
    simp [World.frozen?, hn]
    omega
  have hce := Lib.bytesWorld_cell w1 5 (mkB bl) q hq1
  have hb2 := below_bytesWorld HB1.out HB1.out.size 5 (mkB bl)
  have hs2 := Lib.bytesWorld_size w1 5 (mkB bl)
  rw [HSZ.out] at hrow
  rw [show (mkB bl).data.toList = bl from HSL.out] at hce
  have HROW := Lib.hid hrow
  have HB2 := Lib.hid hb2
  clear hrow hb2 hcv
  generalize grownCap w1 (m + 1) 0 5 = gc at *
  generalize Lib.bytesWorld w1 5 (mkB bl) = W2 at *
  have hdig : bl.getD q 0 = 48 ∨ bl.getD q 0 = 49 := by
    rw [HBA.out]
    rcases digN_is N (m + 1) q with h | h <;> rw [h]
    · exact .inl rfl
    · exact .inr rfl
  have hqi : (q : Int) < ((m + 1 : Nat) : Int) := by omega
  have HFL : Hid (flip bl q = bl.set q (if bl.getD q 0 = 48 then 49 else 48)) := rfl
  obtain ⟨c, c', hc1, hc2, x1⟩ : ∃ c c' : UInt8, bl.getD q 0 = c ∧ (if bl.getD q 0 = 48 then (49 : UInt8) else 48) = c' ∧ bits .xor .u8 (c.toNat : Int) 1 = (c'.toNat : Int) := by
    rcases hdig with h | h
    · exact ⟨48, 49, h, by rw [if_pos h], by decide⟩
    · exact ⟨49, 48, h, by rw [if_neg (by rw [h]; decide)], by decide⟩
  rw [hc1] at hce
  rw [hc2] at HFL
  clear hdig hc1 hc2
  have hR2 := HROW.out.store q hq (.int .u8 (c'.toNat : Int))
  rw [byte_set, ← HFL.out, Nat.zero_add] at hR2
  have HR2 := Lib.hid hR2
  have hce2 : W2.cell? ⟨w1.heap.size, q, none⟩ = some (.int .u8 (c.toNat : Int)) := hce
  generalize ((c.toNat : Int)) = ci at *
  generalize ((c'.toNat : Int)) = ci' at *
  clear hR2 hce
  go_wp2_with fail
  have HFZ := Lib.hid (flip_len HBL.out q)
  have hcvt := fun (w' : World) (hb : Below (W2.setCell ⟨w1.heap.size, q, none⟩ (.int .u8 ci')).heap.size (W2.setCell ⟨w1.heap.size, q, none⟩ (.int .u8 ci')) w') => run_string_row w' Try.underlying54 Try.underlying5 (s := mkB (flip bl q)) (by rw [size_mkB, HFZ.out]; exact HR2.out.below hb HR2.out.blt) 9 Try.underlying9
  have HB3 : Hid (Below w.heap.size w (W2.setCell ⟨w1.heap.size, q, none⟩ (.int .u8 ci'))) := HB2.out.setCell (by exact HB1.out.size) _
  have HS3 : Hid ((mkB bl).size ≤ 4294967296 ∧ (mkB (flip bl q)).size ≤ 4294967296) := ⟨by rw [HSZ.out]; omega, by rw [size_mkB, HFZ.out]; omega⟩
  have HJ1 : Hid (judge (L (mkB bl)) (N : Int) = ⟨true, false, true, true, true⟩) := by show _ = _; rw [HSL.out]; exact HL1.out
  have HJ2 : Hid (judge (L (mkB (flip bl q))) (N : Int) = ⟨true, false, false, false, true⟩) := by show _ = _; rw [L_mkB]; exact HL2.out
  generalize mkB (flip bl q) = tb at *
  generalize mkB bl = ta at *
  generalize W2.setCell ⟨w1.heap.size, q, none⟩ (.int .u8 ci') = W3 at *
  clear hs2 hce2 hfz x1 hqi hq1
  go_cut [10, 11] (fun u v wc => ∃ g1 g2, u = .pointer (some ⟨g1, 0, none⟩) ∧ v = .pointer (some ⟨g2, 0, none⟩) ∧ wc.cell? ⟨g1, 0, none⟩ = some (.bool true) ∧ wc.cell? ⟨g1, 3, none⟩ = some (.bool true) ∧ wc.cell? ⟨g1, 2, none⟩ = some (.bool true) ∧ wc.cell? ⟨g2, 0, none⟩ = some (.bool true) ∧ wc.cell? ⟨g2, 3, none⟩ = some (.bool false) ∧ wc.cell? ⟨g2, 2, none⟩ = some (.bool false) ∧ Hid (Below W3.heap.size W3 wc))
  case first =>
    go_region_held3 (fun w' => Below W3.heap.size W3 w') ((repeat' (first | (with_reducible assumption) | (with_reducible exact (Below.refl _ _).drew) | (with_reducible exact Below.refl _ _) | (with_reducible refine keep_drew ?_) | (with_reducible refine keep_alloc ?_ _) | (with_reducible refine keep_set ?_ ?_) | (with_reducible refine keep_call ?_ (by with_reducible assumption)) | omega | (with_reducible refine keep_size ?_) | (with_reducible refine Nat.le_succ_of_le ?_)))) (first | (go_at_call 14; (with_reducible refine (judge_any _ (N : Int) _ ?_).mono ?_); (first | exact HS3.out.1 | exact HS3.out.2); rintro e w' ⟨rfl, hb⟩; (first | rw [HJ1.out] | rw [HJ2.out]); rw [Verd.V]; obtain ⟨hcc, hff⟩ := bcell2 hb; (first | (with_reducible refine ab_t3 x0 hb ?_; rintro ⟨p0, p1⟩) | (with_reducible refine ab_t2 x0 hb ?_; rintro ⟨p0, p1⟩) | (with_reducible refine ab_t1 x0 hb ?_; rintro ⟨p0, p1⟩) | (with_reducible refine ab_t0 x0 hb ?_; rintro ⟨p0, p1⟩) | skip); (first | (with_reducible refine ab_t3 x2 hb ?_; rintro ⟨p2, p3⟩) | (with_reducible refine ab_t2 x2 hb ?_; rintro ⟨p2, p3⟩) | (with_reducible refine ab_t1 x2 hb ?_; rintro ⟨p2, p3⟩) | (with_reducible refine ab_t0 x2 hb ?_; rintro ⟨p2, p3⟩) | skip); (first | (with_reducible refine ab_b4 hb ?_; rintro ⟨⟨x0, x1⟩, x2, x3⟩) | (with_reducible refine ab_b3 hb ?_; rintro ⟨⟨x0, x1⟩, x2, x3⟩) | (with_reducible refine ab_b2 hb ?_; rintro ⟨⟨x0, x1⟩, x2, x3⟩) | (with_reducible refine ab_b1 hb ?_; rintro ⟨⟨x0, x1⟩, x2, x3⟩) | (with_reducible refine ab_a2 hb ?_; rintro ⟨x0, x1⟩) | (with_reducible refine ab_a1 hb ?_; rintro ⟨x0, x1⟩) | skip)))
    all_goals (have HBZ := Lib.hid (by assumption : Below W3.heap.size W3 _))
    all_goals go_wp2_with fail
    all_goals go_meet
    all_goals refine ⟨_, _, rfl, rfl, ?_, ?_, ?_, ?_, ?_, ?_, HBZ⟩
    all_goals (try (go_simp; done))
    all_goals (repeat (first | (refine (World.cell?_setCell_other _ _ _ _ ?_).trans ?_; focus (intro e; have h9 := congrArg Addr.block e; dsimp only at h9; omega)) | (refine (World.cell?_setCell_other _ _ _ _ ?_).trans ?_; focus (intro e; have h9 := congrArg Addr.off e; dsimp only at h9; omega)) | (refine World.cell?_setCell_same _ _ _ (u := .bool false) ?_)))
    all_goals (first | (rw [hcc _ _ (by simp; omega)]; go_simp; done) | (go_simp; done))
  case rest =>
  obtain ⟨g1, g2, rfl, rfl, c1, c2, c3, c4, c5, c6, HBZ⟩ := hcut
  go_wp2_with fail
  go_ret
  exact ⟨rfl, HB3.out.trans (HBZ.out.mono HB3.out.size)⟩
end Go.Proofs.Ytnjdckhaecdldaa
