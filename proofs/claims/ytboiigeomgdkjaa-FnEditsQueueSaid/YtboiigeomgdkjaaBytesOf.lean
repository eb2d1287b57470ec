/-
  The contract of (*Buffer).Bytes: the queue is put in order, and its edits are applied. For every buffer whose edits, in order, do not overlap.
-/
import Derived.Test.YtboiigeomgdkjaaQueue
import Derived.Test.YtboiigeomgdkjaaStable
import Derived.StillTailTactics
set_option linter.unusedVariables false
set_option maxHeartbeats 2000000
set_option maxRecDepth 100000
namespace Go.Proofs.Ytboiigeomgdkjaa
open Go.RowKit Go.PlainAid Go.Lib

theorem infoU8e : (Try.prog.info? 5).map (fun i => (i.zero, i.size, i.bytes)) = some (some (.int .u8 0), 1, 1) := by kernel_rfl
def tab (g : Nat → St) (n : Nat) : List St := (List.range n).map g
theorem tab_len (g : Nat → St) (n : Nat) : (tab g n).length = n := by simp [tab]
theorem tab_at (g : Nat → St) {n k : Nat} (h : k < n) : (tab g n)[k]'(by rw [tab_len]; exact h) = g k := by simp [tab]
theorem fnl_tab (g : Nat → St) {n k : Nat} (h : k < n) : fnl (tab g n) k = g k := by rw [fnl_at _ (by rw [tab_len]; exact h), tab_at]; exact h
theorem owns_q {w : World} {B n c gb : Nat} {l : List St} {E : TypeId} (h : w.ownsRow B E 3 (.slice (some ⟨gb, 0, none⟩) l.length c) l.length (stepCells l)) (h0 : 0 < l.length) : Q w gb 0 l.length (fnl l) ∧ ∃ cur cap, w.heap[gb]? = some (.cells cur E (0, 0)) ∧ cur.size = cap * 3 ∧ l.length ≤ cap ∧ cap ≤ maxLen ∧ c = cap ∧ B ≤ gb := by
  rcases h.2 with ⟨h2, _⟩ | ⟨g, cap, cur, h2, hb, hg, hle, hm, hs, htk⟩
  · cases h2
  · simp only [Value.slice.injEq, Option.some.injEq, Addr.mk.injEq] at h2
    obtain ⟨⟨rfl, _, _⟩, _, rfl⟩ := h2
    refine ⟨⟨(Array.getElem?_eq_some_iff.1 hg).1, fun i hi => ?_⟩, cur, c, hg, hs, hle, hm, rfl, hb⟩
    have hc : ∀ j, j < 3 → w.cell? ⟨gb, i * 3 + j, none⟩ = (stC (fnl l i))[j]? := fun j hj => by
      rw [fnl_at l hi, ← stepCells_at l i j hi hj, cell_of_row w gb _ cur E (0, 0) hg, ← htk, List.getElem?_take, if_pos (by omega), Array.getElem?_toList]
    have hf := fun j => frozen_of_row w gb j cur E hg
    simp only [Nat.zero_add]
    exact ⟨(hc 0 (by omega)).trans rfl, (hc 1 (by omega)).trans rfl, (hc 2 (by omega)).trans rfl, hf _, hf _, hf _⟩
/-- the row behind the sort -/
theorem owns_sorted {w w1 : World} {B gb c : Nat} {l : List St} {E : TypeId} {g : Nat → St} (h : w.ownsRow B E 3 (.slice (some ⟨gb, 0, none⟩) l.length c) l.length (stepCells l)) (h0 : 0 < l.length) (hq : Q w1 gb 0 l.length g) (hg : GB w w1 gb) : w1.ownsRow B E 3 (.slice (some ⟨gb, 0, none⟩) l.length c) l.length (stepCells (tab g l.length)) := by
  obtain ⟨_, cur, cap, k1, k2, k3, k4, rfl, k5⟩ := owns_q (n := 0) h h0
  obtain ⟨cur', j1, j2⟩ := hg.2 cur E (0, 0) k1
  refine ⟨by rw [stepCells_len, tab_len], .inr ⟨gb, c, cur', rfl, k5, j1, k3, k4, by rw [j2, k2], ?_⟩⟩
  apply List.ext_getElem?
  intro j
  by_cases hj : j < l.length * 3
  · obtain ⟨i, r, hr, rfl⟩ : ∃ i r, r < 3 ∧ j = i * 3 + r := ⟨j / 3, j % 3, by omega, by omega⟩
    have hi : i < l.length := by omega
    obtain ⟨a1, a2, a3, _⟩ := hq.2 i hi
    have hs := stepCells_at (tab g l.length) i r (by rw [tab_len]; exact hi) hr
    rw [tab_at g hi] at hs
    rw [List.getElem?_take, if_pos hj, Array.getElem?_toList, ← cell_of_row w1 gb _ cur' E (0, 0) j1, hs]
    simp only [Nat.zero_add] at a1 a2 a3
    rcases (show r = 0 ∨ r = 1 ∨ r = 2 by omega) with rfl | rfl | rfl
    · exact a1
    · exact a2
    · exact a3
  · rw [List.getElem?_eq_none (by rw [List.length_take]; omega), List.getElem?_eq_none (by rw [stepCells_len, tab_len]; omega)]
theorem buf_sorted {w w1 : World} {B p gb c : Nat} {ov : Value} {d : ByteArray} {l : List St} {g : Nat → St} (hp : w.heap[p]? = some (.cells #[ov, .slice (some ⟨gb, 0, none⟩) l.length c] 56 (0, 0))) (hBp : B ≤ p) (ho : Row w B 1 ov d.size (byteCells d)) (hv : w.ownsRow B 61 3 (.slice (some ⟨gb, 0, none⟩) l.length c) l.length (stepCells l))
    (n1 : ov.ownBlock ≠ some p) (n2 : some gb ≠ some p) (n3 : ov.ownBlock ≠ some gb) (h0 : 0 < l.length) (hq : Q w1 gb 0 l.length g) (hg : GB w w1 gb) :
    w1.heap[p]? = some (.cells #[ov, .slice (some ⟨gb, 0, none⟩) l.length c] 56 (0, 0)) ∧ Row w1 B 1 ov d.size (byteCells d) ∧ w1.ownsRow B 61 3 (.slice (some ⟨gb, 0, none⟩) l.length c) l.length (stepCells (tab g l.length)) ∧ Below B w w1 ∧ Frm p w w1 := by
  have hpl : p < w.heap.size := by
    rcases Nat.lt_or_ge p w.heap.size with h | h
    · exact h
    · rw [Array.getElem?_eq_none h] at hp; cases hp
  refine ⟨(hg.1.block p hpl (fun e => n2 e.symm)).trans hp, ho.grown hg.1 (.inl n3), owns_sorted hv h0 hq hg, (Below.refl B w).grown hg.1 (by omega) (fun q hq' => ?_), fun r hr => ?_⟩
  rotate_left
  · have hc : w.cell? ⟨p, 1, none⟩ = some (.slice (some ⟨gb, 0, none⟩) l.length c) := cell_of_row w p 1 _ _ _ hp
    have hrg : r ≠ gb := fun e => hr.2.2 _ hc (by rw [e]; rfl)
    have hk := fun k (h1 : k < w.heap.size) (h2 : k ≠ gb) => hg.1.block k h1 (fun e => h2 (by injection e))
    exact ⟨⟨Nat.lt_of_lt_of_le hr.1 hg.1.size, hr.2.1, fun v hv => hr.2.2 v ((World.cell?_of_block (w := w) (a := ⟨p, 1, none⟩) (hk p hpl (fun e => n2 (by rw [e])))).symm.trans hv)⟩, hk r hr.1 hrg⟩
  cases hq'
  exact owns_blk hv gb rfl

/-- what Bytes leaves -/
def BytesPost (w : World) (B p : Nat) (ov : Value) (d : ByteArray) (l : List St) (e : Ending) (w' : World) : Prop :=
  ∃ (g : Nat → St) (v : Value), Sd ltE 0 l.length (fnl l) g ∧ e = .returned v ∧ Row w' w.heap.size 1 v (mkB (finK g (L d) l.length)).size (byteCells (mkB (finK g (L d) l.length))) ∧ BufAt w' B p ov d (tab g l.length) ∧ Below B w w' ∧ Frm p w w' ∧ ∀ q, v.ownBlock = some q → Spare p w' q
theorem byteCells_one (s : ByteArray) : ∀ u ∈ byteCells s, u.oneCell' = true := by
  intro u hu
  unfold byteCells at hu
  obtain ⟨x, _, rfl⟩ := List.mem_map.1 hu
  rfl
theorem elem_bytes (w : World) : (sizeOf (Try.prog.elem 43)).run Try.prog w = .ok 1 w := by kernel_rfl
/-- a part of the text -/
theorem cut_old {w : World} {B : Nat} {oa : Option Addr} {oc : Nat} {d : ByteArray} (ho : Row w B 1 (.slice oa d.size oc) d.size (byteCells d)) (l h : Nat) (hlh : l ≤ h) (hh : h ≤ d.size) :
    ∃ a2 c2, (∀ w', (Instr.slice 43 (.slice oa d.size oc) (some (.int .i64 l)) (some (.int .i64 h)) none).run Try.prog w' = .ok (.slice a2 (h - l) c2) w') ∧
      (h = d.size → ∀ w', (Instr.slice 43 (.slice oa d.size oc) (some (.int .i64 l)) none none).run Try.prog w' = .ok (.slice a2 (h - l) c2) w') ∧
      ∀ w' B', Row w' B' 1 (.slice oa d.size oc) d.size (byteCells d) → Src Try.prog 1 43 (.slice a2 (h - l) c2) (d.extract l h).size (byteCells (d.extract l h)) w' := by
  have hle : d.size ≤ oc := by obtain ⟨_, _, ao, cap, e, h1, _⟩ := ho; cases e; exact h1
  refine ⟨(if oc = l then oa else oa.map (·.add (l * 1))), oc - l, fun w' => ?_, fun hd w' => ?_, fun w' B' hr => ?_⟩
  · rw [run_slice_lh w' 43 oa d.size oc rfl .i64 .i64 l h (by omega) (by omega) (by omega), elem_bytes]
    simp [Result.andThen, sliced]
  · rw [run_slice_l w' 43 oa d.size oc rfl .i64 l (by omega) (by omega), elem_bytes]
    simp [Result.andThen, sliced, hd]
  · have hsz : (d.extract l h).size = h - l := by rw [ByteArray.size_extract]; omega
    rw [hsz]
    cases oa with
    | none =>
      have h0 : d.size = 0 := by
        rcases Nat.eq_zero_or_pos d.size with h0 | h0
        · exact h0
        · obtain ⟨_, _, _, e, _⟩ := hr.at_ h0 (by omega)
          cases e
      have e : byteCells (d.extract l h) = [] := List.eq_nil_of_length_eq_zero (by rw [byteCells_length, hsz]; omega)
      rw [e, show h - l = 0 by omega]
      simp only [Option.map_none, ite_self]
      exact Src.ofNil w' Try.underlying43 _
    | some ad =>
      have key : ∀ a2 : Addr, (l < h → a2 = ad.add l) → Src Try.prog 1 43 (.slice (some a2) (h - l) (oc - l)) (h - l) (byteCells (d.extract l h)) w' := fun a2 ha2 => by
        refine Src.ofSlice w' Try.underlying43 a2 _ _ _ (by rw [byteCells_length, hsz, Nat.mul_one]) (fun j u hu => ?_) (byteCells_one _)
        have hj : j < h - l := by
          have := (List.getElem?_eq_some_iff.1 hu).1
          rw [byteCells_length, hsz] at this; exact this
        rw [ha2 (by omega)]
        obtain ⟨g, o, cap, e, _, _, _, _, hx⟩ := hr.at_ (by omega) (by omega)
        simp only [Value.slice.injEq, Option.some.injEq] at e
        obtain ⟨rfl, _⟩ := e
        rw [Addr.add_lit, Addr.add_lit, show o + l + j = o + (l + j) by omega, hx (l + j) (by omega), ← hu]
        unfold byteCells
        rw [List.getElem?_map, List.getElem?_map]
        congr 1
        show (L d)[l + j]? = (L (d.extract l h))[j]?
        rw [L_extract, List.getElem?_drop, List.getElem?_take, if_pos (by omega)]
      by_cases hc : oc = l
      · rw [if_pos hc]; exact key ad (fun h => by omega)
      · rw [if_neg hc, Option.map_some, Nat.mul_one]; exact key _ (fun _ => rfl)

def BytesRel (w1 : World) (g : Nat → St) (d : ByteArray) (n : Nat) (v3 v4 v18 : Value) (wr : World) : Prop :=
  ∃ (k : Nat) (txt : ByteArray), v18 = .int .i64 k ∧ k ≤ n ∧ v4 = .int .i64 (offK g k) ∧ L txt = outK g (L d) k ∧ Row wr w1.heap.size 1 v3 txt.size (byteCells txt) ∧ Below w1.heap.size w1 wr
theorem row_txt {w : World} {B : Nat} {v : Value} {t s : ByteArray} (h : Row w B 1 v (t.size + s.size) (byteCells t ++ byteCells s)) : Row w B 1 v (t ++ s).size (byteCells (t ++ s)) := by
  rw [ByteArray.size_append, byteCells_append]; exact h
theorem Row.low {w1 wr : World} {B size n : Nat} {v : Value} {xs : List Value} (h : Row w1 B size v n xs) (hb : Below w1.heap.size w1 wr) : Row wr B size v n xs := h.below hb h.blt

theorem bytes_none (w : World) (B p : Nat) (ov : Value) (d : ByteArray) (hd : d.size ≤ 4294967296) (h : BufAt w B p ov d []) :
    Calls Try.prog 28 #[.pointer (some ⟨p, 0, none⟩)] w (BytesPost w B p ov d []) := by
  obtain ⟨i0, hi, hz0, hz1, hz2⟩ := info_parts infoU8e
  have HB := Lib.hid h
  obtain ⟨v, hg, hBp, ho, hv, n1, n2, n3⟩ := h
  have c0 : w.cell? ⟨p, 0, none⟩ = some ov := cell_of_row w p 0 _ _ _ hg
  have c1 : w.cell? ⟨p, 1, none⟩ = some v := cell_of_row w p 1 _ _ _ hg
  have HO := Lib.hid ho
  obtain ⟨oa, oc, rfl⟩ := ho.shape
  obtain ⟨va, vc, rfl⟩ := owns_shape hv
  have HV : Hid (∀ q, (Value.slice va ([] : List St).length vc).ownBlock = some q → q < w.heap.size) := fun q hq => (hv.lt q hq).2
  obtain ⟨a2, c2, _, r2, s2⟩ := cut_old ho 0 d.size (Nat.zero_le _) (Nat.le_refl _)
  have hr2 := r2 rfl
  rw [Nat.sub_zero] at hr2 s2
  have hr3 : ∀ w', (Instr.slice 43 (.slice oa d.size oc) (some (.int .i64 0)) none none).run Try.prog w' = .ok (.slice a2 d.size c2) w' := hr2
  clear hr2
  have S2 := Lib.hid (s2 w B ho)
  have hx : d.extract 0 d.size = d := by apply L_inj; rw [L_take, List.take_of_length_le (by rw [L_len]; omega)]
  rw [hx] at S2
  have m1 : 0 + d.size ≤ maxLen := by unfold maxLen; omega
  have m2 : (0 + d.size) * 1 ≤ 140737488355328 := by omega
  clear hg ho hv n1 n2 n3 r2 s2 hx
  rename_i r1
  clear r1
  go_enter Try.func28, Try.ntmps28
  go_wp2_with fail
  refine (sortStable_none _ _ _).mono ?_
  rintro e w' ⟨rfl, rfl⟩
  go_wp2_with fail
  refine wp_loop_rounds 1 ?_
  rw [rounds_succ]
  go_wp2_with (at_builtin; refine wpList_append_row _ rfl (.tmp 44) (.tmp 50) 43 43 rfl w.heap.size 5 i0 (.int .u8 0) 1 1 Try.underlying43 hi hz0 hz1 hz2 rfl (.slice none 0 0) 0 [] (Row.nil _ _ _) rfl (.slice a2 d.size c2) d.size (byteCells d) S2.out rfl m1 m2 (Nat.le_refl _) ?_; intro v' w1 k1 k2 k3; obtain ⟨a', c', rfl⟩ := k1.shape; have K1 := Lib.hid k1; have K2 := Lib.hid k2; clear k1 k2 k3)
  go_ret
  have hT : mkB (finK (fnl []) (L d) 0) = d := by rw [show finK (fnl []) (L d) 0 = L d by simp [finK, outK, offK], mkB_L]
  refine ⟨fnl [], _, Sd.none (fun i j h1 h2 h3 => by simp at h3), rfl, ?_, HB.out.keep K2.out.size (fun k hk => K2.out.block k hk (by simp [Value.ownBlock])), (Below.refl _ _).grown K2.out (by have := HB.out; obtain ⟨v, g1, g2, _⟩ := this; have : p < w.heap.size := block_lt_of_cell c0; omega) (by simp [Value.ownBlock]), Frm.old (block_lt_of_cell c0) K2.out.size (fun k hk => K2.out.block k hk (by simp [Value.ownBlock])), fun q hq => ?_⟩
  rotate_left
  · have hpl : p < w.heap.size := block_lt_of_cell c0
    have hk := fun k h => K2.out.block k h (by simp [Value.ownBlock])
    have hq' : (Value.slice a' (0 + d.size) c').ownBlock = some q := by rw [Nat.zero_add]; exact hq
    have hqb := K1.out.2.1 q hq'
    refine ⟨hqb.2, by omega, fun u hu => ?_⟩
    rw [World.cell?_of_block (w := w) (a := ⟨p, 1, none⟩) (hk p hpl), c1] at hu
    cases hu
    intro e
    have := HV.out q e
    omega
  show Row w1 w.heap.size 1 _ (mkB (finK (fnl []) (L d) 0)).size (byteCells (mkB (finK (fnl []) (L d) 0)))
  rw [hT]
  have := K1.out
  rwa [Nat.zero_add, List.nil_append] at this

theorem wp_region_tail {P : Program} {id : Nat} {Q : Exit → Act → World → Prop} {a : Act} {w : World} {l : List Oper} (n : Nat) (hm : P.follows .mixedOrders = true) (hB : Region.lexTailB .any l.toArray n = true) (W2 : World) (hW : W2 = w.drew)
    (h : wpStill P l.toArray W2 (fun a' => wpList P l.toArray Q (l.drop n) a' W2) (l.take n) a) : (Code.region id l.toArray true).wp P Q a w := by
  subst hW; exact wp_region_still_tail n hm hB h
theorem bytes_some (w : World) (B p : Nat) (ov : Value) (d : ByteArray) (l : List St) (M : Nat) (hd : d.size ≤ 4294967296) (h0 : 0 < l.length) (hl : l.length ≤ 4294967295) (hin : ∀ z ∈ l, inN d.size z) (hM : ∀ z ∈ l, z.2.2.size ≤ M) (hMn : l.length * M ≤ 100000000000000)
    (hch : ∀ g, Sd ltE 0 l.length (fnl l) g → Chn g l.length) (h : BufAt w B p ov d l) :
    Calls Try.prog 28 #[.pointer (some ⟨p, 0, none⟩)] w (BytesPost w B p ov d l) := by
  obtain ⟨i0, hi, hz0, hz1, hz2⟩ := info_parts infoU8e
  obtain ⟨v, hg, hBp, ho, hv, n1, n2, n3⟩ := h
  have c0 : w.cell? ⟨p, 0, none⟩ = some ov := cell_of_row w p 0 _ _ _ hg
  have c1 : w.cell? ⟨p, 1, none⟩ = some v := cell_of_row w p 1 _ _ _ hg
  obtain ⟨oa, oc, rfl⟩ := ho.shape
  obtain ⟨va, vc, rfl⟩ := owns_shape hv
  obtain ⟨gb, rfl⟩ : ∃ gb, va = some ⟨gb, 0, none⟩ := by
    rcases hv.2 with ⟨_, h2⟩ | ⟨g, cap, cur, h2, _⟩
    · omega
    · injection h2 with h2; exact ⟨g, h2⟩
  have hq0 := (owns_q (n := 0) hv h0).1
  have hst := sortStable_any w gb 0 l.length vc (fnl l) h0 (by omega) hq0
  have HP := Lib.hid (fun (w1 : World) (g : Nat → St) (a : Q w1 gb 0 l.length g) (b : GB w w1 gb) => buf_sorted hg hBp ho hv n1 n2 (by rcases n3 with n3 | n3; cases n3; exact n3) h0 a b)
  have HN := Lib.hid (And.intro n1 (And.intro n2 n3))
  have HCH := Lib.hid hch
  have HIN := Lib.hid hin
  have HM := Lib.hid hM
  have HMN := Lib.hid hMn
  clear hg ho hv n1 n2 n3 hq0 hch hin hM hMn
  go_enter Try.func28, Try.ntmps28
  go_wp2_with fail
  refine hst.mono ?_
  rintro e w1 ⟨rfl, g, hq, hsd, hgb⟩
  clear hst
  obtain ⟨hg1, ho1, hv1, hb1, hf1⟩ := HP.out w1 g hq hgb
  have HF1 := Lib.hid hf1
  clear hf1
  have HG1 := Lib.hid hg1
  have HO1 := Lib.hid ho1
  have HV1 := Lib.hid hv1
  have HB1 := Lib.hid hb1
  have HQ := Lib.hid hq
  have HSD := Lib.hid hsd
  have HC := Lib.hid (HCH.out g hsd)
  have hinF : ∀ k, k < l.length → inN d.size (fnl l k) := fun k hk => by rw [fnl_at l hk]; exact HIN.out _ (List.getElem_mem _)
  have hMF : ∀ k, k < l.length → (fnl l k).2.2.size ≤ M := fun k hk => by rw [fnl_at l hk]; exact HM.out _ (List.getElem_mem _)
  have HGI := Lib.hid (hsd.1.all2 (Nat.le_refl _) hinF)
  have HGM := Lib.hid (hsd.1.all2 (p := fun z => z.2.2.size ≤ M) (Nat.le_refl _) hMF)
  have d0 : w1.cell? ⟨p, 0, none⟩ = some (.slice oa d.size oc) := cell_of_row w1 p 0 _ _ _ hg1
  have d1 : w1.cell? ⟨p, 1, none⟩ = some (.slice (some ⟨gb, 0, none⟩) l.length vc) := cell_of_row w1 p 1 _ _ _ hg1
  clear hg1 ho1 hv1 hb1 hq hsd hgb hinF hMF HP HCH HIN HM c0 c1
  go_wp2_with fail
  go_loopw [3, 4, 18] (BytesRel w1 g d l.length) (fun _ _ iv _ => l.length - (intOf iv).toNat)
  case atStart => exact ⟨0, ByteArray.empty, rfl, Nat.zero_le _, rfl, rfl, Row.nil _ _ _, Below.refl _ _⟩
  case round =>
    obtain ⟨k, txt, rfl, hk, rfl, hL, hrow, hbel⟩ := hrel
    have HL := Lib.hid hL
    have HR := Lib.hid hrow
    have HBE := Lib.hid hbel
    obtain ⟨ta, tc, rfl⟩ := hrow.shape
    clear hL hrow hbel
    have hpl : p < w1.heap.size := block_lt_of_cell d0
    have hgl : gb < w1.heap.size := HQ.out.1
    have f0 : wr.cell? ⟨p, 0, none⟩ = some (.slice oa d.size oc) := (HBE.out.cell (p := ⟨p, 0, none⟩) hpl).trans d0
    have hlen : txt.size ≤ offK g k + k * M := by rw [← L_len, HL.out]; exact outK_len (by rw [L_len]; exact HGI.out) HC.out HGM.out k hk
    have hoff : offK g k ≤ d.size := offK_le (fun i hi => HGI.out i (by omega))
    have hkm : k * M ≤ 100000000000000 := Nat.le_trans (Nat.mul_le_mul_right M hk) HMN.out
    by_cases hlt : k < l.length
    · obtain ⟨q1, q2, q3, _⟩ := HQ.out.2 k hlt
      have hi1 := HGI.out k hlt
      have hs1 := offK_start HGI.out HC.out hlt
      have hm1 := HGM.out k hlt
      have HOS := Lib.hid (outK_succ g (L d) k)
      have HFS := Lib.hid (offK_succ g k)
      unfold inN at hi1
      obtain ⟨z, hz⟩ : ∃ z, z = g k := ⟨_, rfl⟩
      rw [← hz] at q1 q2 q3 hi1 hs1 hm1 HOS HFS
      have HZ := Lib.hid hz
      clear hz
      obtain ⟨x, y, t⟩ := z
      dsimp only at q1 q2 q3 hi1 hs1 hm1 HOS HFS
      obtain ⟨s, rfl⟩ : ∃ s : Nat, x = (s : Int) := ⟨x.toNat, by omega⟩
      obtain ⟨u, rfl⟩ : ∃ u : Nat, y = (u : Int) := ⟨y.toNat, by omega⟩
      rw [Int.toNat_natCast] at hs1 HOS
      rw [Int.toNat_natCast] at HFS
      obtain ⟨i1, i2, i3⟩ := hi1
      obtain ⟨s1, s2⟩ := hs1
      obtain ⟨off, hO⟩ : ∃ off, off = offK g k := ⟨_, rfl⟩
      rw [← hO] at HOS hlen hoff s1 s2
      rw [← hO]
      have HOF := Lib.hid hO
      clear hO
      obtain ⟨a2, c2, r1, _, s3⟩ := cut_old (HO1.out.low HBE.out) off s s1 (by omega)
      have HW := Lib.hid (HR.out.alloc (.cells #[.int .i64 s, .int .i64 u, .string t] 61)).drew
      have HS3 := Lib.hid (s3 (wr.alloc (.cells #[.int .i64 s, .int .i64 u, .string t] 61)).drew B (((HO1.out.low HBE.out).alloc _).drew))
      have HBW := Lib.hid ((HBE.out.alloc HBE.out.size (.cells #[.int .i64 s, .int .i64 u, .string t] 61)).drew)
      clear s3
      rename_i r2 
      clear r2
      have hsz : (d.extract off s).size = s - off := by rw [ByteArray.size_extract]; omega
      obtain ⟨xt, hxt⟩ : ∃ xt, xt = d.extract off s := ⟨_, rfl⟩
      rw [← hxt] at HS3 hsz
      have HXT := Lib.hid hxt
      have HX := Lib.hid hsz
      clear hsz hxt
      have e1 : ¬ ((s : Int) < (off : Int)) := by omega
      simp only [Nat.zero_add] at q1 q2 q3
      have f1 : wr.cell? ⟨gb, k * 3, none⟩ = some (.int .i64 (s : Int)) := (HBE.out.cell (p := ⟨gb, k * 3, none⟩) hgl).trans q1
      have f2 : wr.cell? ⟨gb, k * 3 + 1, none⟩ = some (.int .i64 (u : Int)) := (HBE.out.cell (p := ⟨gb, k * 3 + 1, none⟩) hgl).trans q2
      have f3 : wr.cell? ⟨gb, k * 3 + 2, none⟩ = some (.string t) := (HBE.out.cell (p := ⟨gb, k * 3 + 2, none⟩) hgl).trans q3
      clear q1 q2 q3 d0 d1
      obtain ⟨W2, hW2⟩ : ∃ W2 : World, W2 = (wr.alloc (.cells #[.int .i64 s, .int .i64 u, .string t] 61)).drew := ⟨_, rfl⟩
      have hWg : ∀ o', (wr.alloc (.cells #[.int .i64 s, .int .i64 u, .string t] 61)).drew.cell? ⟨wr.heap.size, o', none⟩ = #[Value.int .i64 s, .int .i64 u, .string t][o']? := fun o' => cell_of_row (wr.alloc (.cells #[.int .i64 s, .int .i64 u, .string t] 61)) wr.heap.size o' _ _ _ (heap_alloc_new wr _)
      have g0 : W2.cell? ⟨wr.heap.size, 0, none⟩ = some (.int .i64 s) := by rw [hW2]; exact hWg 0
      have g1 : W2.cell? ⟨wr.heap.size, 1, none⟩ = some (.int .i64 u) := by rw [hW2]; exact hWg 1
      have g2 : W2.cell? ⟨wr.heap.size, 2, none⟩ = some (.string t) := by rw [hW2]; exact hWg 2
      have gp : W2.cell? ⟨p, 0, none⟩ = some (.slice oa d.size oc) := by rw [hW2]; exact (World.cell?_of_block (w := wr) (a := ⟨p, 0, none⟩) (Below.heap_alloc wr _ p (Nat.lt_of_lt_of_le hpl HBE.out.size))).trans f0
      have HW2 := Lib.hid hW2
      rw [← hW2] at HW HS3 HBW
      have hsz2 : wr.heap.size < W2.heap.size := by rw [hW2]; show wr.heap.size < (wr.alloc _).heap.size; simp
      clear hWg hW2
      have HMT : Hid (t.size + k * M ≤ 100000000000000) := by
        have h1 : (k + 1) * M ≤ l.length * M := Nat.mul_le_mul_right M hlt
        have h2 := HMN.out
        rw [Nat.add_mul, Nat.one_mul] at h1
        show _ ≤ _
        omega
      go_wp2_with fail
      refine wp_region_tail 9 (by kernel_rfl) (by kernel_rfl) W2 HW2.out ?_
      simp only [List.take_succ_cons, List.take_zero, List.drop_succ_cons, List.drop_zero]
      repeat still_step
      refine wpStill_nil ?_
      have m1 : txt.size + xt.size ≤ maxLen := by have := HX.out; unfold maxLen; omega
      have m2 : (txt.size + xt.size) * 1 ≤ 140737488355328 := by have := HX.out; omega
      have m3 : txt.size + xt.size + t.size ≤ maxLen := by have := HX.out; have := HMT.out; unfold maxLen; omega
      have m4 : (txt.size + xt.size + t.size) * 1 ≤ 140737488355328 := by have := HX.out; have := HMT.out; omega
      have hbw := HBW.out.size
      go_wp2_with (first | (at_builtin; refine wpList_append_row W2 rfl (.tmp 27) (.tmp 35) 43 43 rfl w1.heap.size 5 i0 (.int .u8 0) 1 1 Try.underlying43 hi hz0 hz1 hz2 rfl (.slice ta txt.size tc) txt.size (byteCells txt) HW.out rfl (.slice a2 (s - off) c2) xt.size (byteCells xt) HS3.out rfl m1 m2 hbw ?_; intro v2 w2 k1 k2 k3; obtain ⟨b2, b3, rfl⟩ := k1.shape; have K1 := Lib.hid k1; have K2 := Lib.hid k2; have K3 := Lib.hid k3; have h1 := (World.cell?_of_block (w := W2) (a := ⟨wr.heap.size, 1, none⟩) (k2.block wr.heap.size hsz2 (fun e => Nat.lt_irrefl _ (HR.out.blt _ e.symm)))).trans g1; have h2 := (World.cell?_of_block (w := W2) (a := ⟨wr.heap.size, 2, none⟩) (k2.block wr.heap.size hsz2 (fun e => Nat.lt_irrefl _ (HR.out.blt _ e.symm)))).trans g2; clear k1 k2 k3) | (at_builtin; refine wpList_append_row w2 rfl (.tmp 39) (.tmp 41) 43 9 rfl w1.heap.size 5 i0 (.int .u8 0) 1 1 Try.underlying43 hi hz0 hz1 hz2 rfl (.slice b2 (txt.size + xt.size) b3) (txt.size + xt.size) (byteCells txt ++ byteCells xt) K1.out rfl (.string t) t.size (byteCells t) (Src.ofString w2 Try.underlying9 t) rfl m3 m4 (Nat.le_trans hbw K2.out.size) ?_; intro v3 w3 j1 j2 j3; obtain ⟨b4, b5, rfl⟩ := j1.shape; have J1 := Lib.hid j1; have J2 := Lib.hid j2; clear j1 j2 j3))
      go_roundw
      case rel =>
        refine ⟨k + 1, txt ++ xt ++ t, by go_num, by omega, by rw [HFS.out], ?_, ?_, ?_⟩
        · rw [HOS.out, ← HL.out, L_append, L_append, HXT.out, L_extract, List.drop_take]
        · have := J1.out
          rw [ByteArray.size_append, ByteArray.size_append, byteCells_append, byteCells_append]; exact this
        · exact (HBW.out.grown K2.out hbw (HW.out.blk)).grown J2.out (Nat.le_trans hbw K2.out.size) K1.out.blk
      case measure => simp [intOf]; omega
    · obtain ⟨n, hn⟩ : ∃ n, n = l.length := ⟨_, rfl⟩
      obtain rfl : k = n := by omega
      have HNL := Lib.hid hn
      obtain ⟨off, hO⟩ : ∃ off, off = offK g k := ⟨_, rfl⟩
      rw [← hO] at hlen hoff
      rw [← hO]
      have HOF := Lib.hid hO
      clear hO
      obtain ⟨a2, c2, _, r2, s3⟩ := cut_old (HO1.out.low HBE.out) off d.size hoff (Nat.le_refl _)
      have hr2 := r2 rfl
      have HS3 := Lib.hid (s3 wr B (HO1.out.low HBE.out))
      clear s3 r2
      rename_i r1
      clear r1
      have hsz : (d.extract off d.size).size = d.size - off := by rw [ByteArray.size_extract]; omega
      obtain ⟨xt, hxt⟩ : ∃ xt, xt = d.extract off d.size := ⟨_, rfl⟩
      rw [← hxt] at HS3 hsz
      have HXT := Lib.hid hxt
      have HX := Lib.hid hsz
      clear hsz hxt d0 d1
      have hlt' : ¬ ((k : Int) < (l.length : Int)) := by omega
      have m1 : txt.size + xt.size ≤ maxLen := by have := HX.out; unfold maxLen; omega
      have m2 : (txt.size + xt.size) * 1 ≤ 140737488355328 := by have := HX.out; omega
      have hbw := HBE.out.size
      clear hn
      go_wp2_with (at_builtin; refine wpList_append_row wr rfl (.tmp 44) (.tmp 50) 43 43 rfl w1.heap.size 5 i0 (.int .u8 0) 1 1 Try.underlying43 hi hz0 hz1 hz2 rfl (.slice ta txt.size tc) txt.size (byteCells txt) HR.out rfl (.slice a2 (d.size - off) c2) xt.size (byteCells xt) HS3.out rfl m1 m2 hbw ?_; intro v2 w2 k1 k2 k3; obtain ⟨b2, b3, rfl⟩ := k1.shape; have K1 := Lib.hid k1; have K2 := Lib.hid k2; have K3 := Lib.hid k3; clear k1 k2 k3)
      go_ret
      have hT : mkB (finK g (L d) l.length) = txt ++ xt := by
        rw [← HNL.out]
        apply L_inj
        rw [L_mkB, L_append, HL.out, HXT.out, L_drop, HOF.out]; rfl
      have HB2 := HBE.out.grown K2.out hbw HR.out.blk
      refine ⟨g, _, HSD.out, rfl, ?_, ?_, HB1.out.trans (HB2.mono (Nat.le_trans hBp (Nat.le_of_lt hpl))), HF1.out.trans (Frm.old hpl HB2.size HB2.block), fun q hq => ?_⟩
      rotate_left 2
      · have hqb := K1.out.2.1 q hq
        refine ⟨hqb.2, by omega, fun u hu => ?_⟩
        rw [World.cell?_of_block (w := w1) (a := ⟨p, 1, none⟩) (HB2.block p hpl), cell_of_row w1 p 1 _ _ _ HG1.out] at hu
        cases hu
        intro e
        injection e with e
        have e2 : gb = q := e
        omega
      · rw [hT, ByteArray.size_append, byteCells_append]
        exact K1.out.mono HB1.out.size
      · refine BufAt.keep ⟨.slice (some ⟨gb, 0, none⟩) l.length vc, HG1.out, hBp, HO1.out, ?_, HN.out⟩ HB2.size HB2.block
        rw [tab_len]; exact HV1.out
theorem bytes_any (w : World) (B p : Nat) (ov : Value) (d : ByteArray) (l : List St) (M : Nat) (hd : d.size ≤ 4294967296) (hl : l.length ≤ 4294967295) (hin : ∀ z ∈ l, inN d.size z) (hM : ∀ z ∈ l, z.2.2.size ≤ M) (hMn : l.length * M ≤ 100000000000000)
    (hch : ∀ g, Sd ltE 0 l.length (fnl l) g → Chn g l.length) (h : BufAt w B p ov d l) :
    Calls Try.prog 28 #[.pointer (some ⟨p, 0, none⟩)] w (BytesPost w B p ov d l) := by
  cases l with
  | nil => exact bytes_none w B p ov d hd h
  | cons z l => exact bytes_some w B p ov d _ M hd (by simp) hl hin hM hMn hch h
end Go.Proofs.Ytboiigeomgdkjaa
