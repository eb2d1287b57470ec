/-
  The contract of bisect.appendFileLine: it appends the file, a colon and the decimal numeral of the line. For every file of at most 4294967296 bytes and every number.
-/
import Derived.Test.YtnjdckhaecdldaaProg
import Derived.Test.YtnjdckhaecdldaaRow
import Derived.Test.YtnjdckhaecdldaaBytes
import Derived.Lib.ItoaLen
import Derived.Lib.Hide
import Derived.Outline
import Derived.Deep.DeepCutAuto
import Derived.Deep.CutBlock
set_option linter.unusedVariables false
namespace Go.Proofs.Ytnjdckhaecdldaa
open Go.RowKit Go.PlainAid Go.Lib

/-- what has been told of U: its last digits ds; u is what is left -/
def Dig (U u : Nat) (ds : List UInt8) : Prop := (ds = [] ∧ u = U) ∨ (ds ≠ [] ∧ decDigits U = (if u = 0 then [] else decDigits u) ++ ds)
theorem Dig.step {U u : Nat} {ds : List UInt8} (h : Dig U u ds) (hc : ds = [] ∨ 0 < u) : Dig U (u / 10) (UInt8.ofNat (48 + u % 10) :: ds) := by
  have key : decDigits U = decDigits u ++ ds := by
    rcases h with ⟨rfl, rfl⟩ | ⟨hne, he⟩
    · rw [List.append_nil]
    · rcases hc with rfl | hu
      · exact absurd rfl hne
      · rw [he, if_neg (by omega)]
  refine .inr ⟨by simp, ?_⟩
  by_cases h10 : u < 10
  · rw [key, decDigits, dif_pos h10, if_pos (by omega), Nat.mod_eq_of_lt h10]; rfl
  · rw [key, decDigits, dif_neg h10, if_neg (by omega), List.append_assoc]; rfl
theorem Dig.len {U u : Nat} {ds : List UInt8} (h : Dig U u ds) (hU : U < 18446744073709551616) : ds.length ≤ 20 := by
  rcases h with ⟨rfl, _⟩ | ⟨_, he⟩
  · simp
  · have := nDigits_le20 U hU
    rw [← decDigits_length, he, List.length_append] at this
    omega
theorem Dig.done {U u : Nat} {ds : List UInt8} (h : Dig U u ds) (hn : ds ≠ []) (hu : u = 0) : ds = decDigits U := by
  rcases h with ⟨h, _⟩ | ⟨_, he⟩
  · exact absurd h hn
  · rw [he, if_pos hu]; rfl
def bcs (l : List UInt8) : List Value := l.map fun c => Value.int .u8 (c.toNat : Int)
theorem bcs_mkB (l : List UInt8) : byteCells (mkB l) = bcs l := by unfold byteCells bcs mkB; rfl
theorem bcs_cons {cs : Array Value} {ds : List UInt8} {c : UInt8} (hs : cs.size = 24) (hl : ds.length < 24) (h : cs.toList.drop (24 - ds.length) = bcs ds) :
    (cs.setIfInBounds (23 - ds.length) (.int .u8 (c.toNat : Int))).toList.drop (24 - (c :: ds).length) = bcs (c :: ds) := by
  have hcl : cs.toList.length = 24 := by rw [Array.length_toList]; exact hs
  have e : 24 - (c :: ds).length = 23 - ds.length := by rw [List.length_cons]; omega
  rw [e, Array.toList_setIfInBounds, List.drop_eq_getElem_cons (by rw [List.length_set, hcl]; omega), List.getElem_set_self]
  rw [List.drop_set_of_lt (by omega), show 23 - ds.length + 1 = 24 - ds.length by omega, h]
  rfl
theorem infoU8' : (Try.prog.info? 5).map (fun i => (i.zero, i.size, i.bytes)) = some (some (.int .u8 0), 1, 1) := by kernel_rfl
theorem bcs_one (l : List UInt8) : ∀ u ∈ bcs l, u.oneCell' = true := by
  intro u hu
  obtain ⟨_, _, rfl⟩ := List.mem_map.1 hu
  rfl
theorem byteCells_one' (t : ByteArray) : ∀ u ∈ byteCells t, u.oneCell' = true := by
  intro u hu
  obtain ⟨_, _, rfl⟩ := List.mem_map.1 hu
  rfl
theorem slice_buf (W : World) (b j : Nat) (h : j < 24) : (Instr.sliceAt 106 (.pointer (some ⟨b, 0, none⟩)) (some (.int .i64 (j : Int))) none none).run Try.prog W = .ok (.slice (some ⟨b, j, none⟩) (24 - j) (24 - j)) W := by
  have e1 : Try.prog.arrayLen 106 = 24 := by kernel_rfl
  have e2 : Try.prog.elem 106 = 5 := by kernel_rfl
  have ht : Try.prog.underlying 106 = some (.array (Try.prog.arrayLen 106) (Try.prog.elem 106)) := by rw [e1, e2]; exact Try.underlying106
  rw [run_sliceAt_array_l W 106 _ ht _ _ (by omega) (by rw [e1]; omega), e1, e2, Try.sizeOf5]
  simp [Result.andThen, slicedAt, show ¬ 24 = j by omega, Addr.add_lit]
/-- the text of a file and a line -/
def lineB (f : ByteArray) (n : Int) : ByteArray := f ++ (⟨#[58]⟩ ++ mkB (itoa n))
theorem row_add {w : World} {B : Nat} {v : Value} {s : ByteArray} {m : Nat} {l : List Value} (t : ByteArray) (h : Row w B 1 v (s.size + m) (byteCells s ++ l)) (hm : m = t.size) (hl : l = byteCells t) : Row w B 1 v (s ++ t).size (byteCells (s ++ t)) := by
  rw [ByteArray.size_append, byteCells_append, ← hm, ← hl]; exact h
def LinePost (B : Nat) (T : ByteArray) (w : World) (e : Ending) (w' : World) : Prop := ∃ v', e = .returned v' ∧ Row w' B 1 v' T.size (byteCells T) ∧ Below B w w'
set_option maxRecDepth 100000 in
set_option maxHeartbeats 4000000 in
theorem appLine_any (s f : ByteArray) (n : Int) (B : Nat) (v : Value) (w : World) (hr : Row w B 1 v s.size (byteCells s)) (hB : B ≤ w.heap.size) (hs : s.size ≤ 4294967296) (hf : f.size ≤ 4294967296)
    (n0 : -9223372036854775808 ≤ n) (n1 : n ≤ 9223372036854775807) :
    Calls Try.prog 42 #[v, .string f, .int .i64 n] w (LinePost B (s ++ lineB f n) w) := by
  obtain ⟨i0, hi, hz0, hz1, hz2⟩ := info_parts infoU8'
  have HR := Lib.hid hr
  clear hr
  have m1 : s.size + f.size ≤ maxLen := by unfold maxLen; omega
  have m2 : (s.size + f.size) * 1 ≤ 140737488355328 := by omega
  have HN := Lib.hid (show -9223372036854775808 ≤ n ∧ n ≤ 9223372036854775807 from ⟨n0, n1⟩)
  have HB := Lib.hid hB
  clear n0 n1
  go_enter Try.func42, Try.ntmps42
  go_wp2_with (at_builtin; refine wpList_append_row _ rfl (.tmp 10) (.tmp 11) 54 9 rfl B 5 i0 (.int .u8 0) 1 1 Try.underlying54 hi hz0 hz1 hz2 rfl _ _ _ HR.out rfl _ f.size (byteCells f) (Src.ofString w Try.underlying9 f) rfl m1 m2 hB ?_; intro v1 w1 h1 h2 h3; obtain ⟨a1, c1, rfl⟩ := h1.shape; have H1 := Lib.hid (row_add f h1 rfl rfl); have HB1 := Lib.hid ((Below.refl B w).grown h2 hB HR.out.blk); have HS1 := Lib.hid (Nat.le_trans hB h2.size); clear h1 h2 h3; refine Hid.out ?_)
  have m3 : s.size + f.size + 1 ≤ maxLen := by unfold maxLen; omega
  have m4 : (s.size + f.size + 1) * 1 ≤ 140737488355328 := by omega
  have e1 : (s ++ f).size = s.size + f.size := ByteArray.size_append
  have H1' : Row w1 B 1 (.slice a1 (s.size + f.size) c1) (s.size + f.size) (byteCells (s ++ f)) := by rw [← e1]; exact e1 ▸ H1.out
  have HR1 := Lib.hid H1'
  clear H1' H1 e1 m1 m2 HR
  refine Lib.hid ?_
  go_wp2_with (at_builtin; refine wpList_append_one w1 rfl (.tmp 13) (.tmp 14) 54 rfl B 5 i0 (.int .u8 0) 1 Try.underlying54 hi hz0 hz1 hz2 rfl _ _ _ HR1.out rfl (.int .u8 58) rfl rfl m3 m4 HS1.out HB1.out ?_; intro v2 w2 h1 h2 h3 h4; obtain ⟨a2, c2, rfl⟩ := h1.shape; have H2 := Lib.hid h1; have HB2 := Lib.hid h2; clear h1 h2 h3 h4; refine Hid.out ?_)
  clear m3 m4 HR1 HB1 HS1
  refine Lib.hid ?_
  go_upto_if 19 with (fail)
  go_cut [0, 7] (fun dv uv wc => ∃ a3 c3 m U, dv = .slice a3 m c3 ∧ uv = .int .u64 ((U : Nat) : Int) ∧ U < 18446744073709551616 ∧ m ≤ 8589934600 ∧ Hid (∃ T : ByteArray, T.size = m ∧ Row wc B 1 (.slice a3 m c3) m (byteCells T) ∧ T ++ mkB (decDigits U) = s ++ lineB f n) ∧ Hid (Below B w wc) ∧ Hid (B ≤ wc.heap.size))
  case first =>
    by_cases hn : n < 0
    · have m3 : s.size + f.size + 1 + 1 ≤ maxLen := by unfold maxLen; omega
      have m4 : (s.size + f.size + 1 + 1) * 1 ≤ 140737488355328 := by omega
      have HN2 := Lib.hid hn
      have HBW := Lib.hid (Nat.le_trans hB HB2.out.size)
      go_wp2_with (at_builtin; refine wpList_append_one w2 rfl (.tmp 20) (.tmp 21) 54 rfl B 5 i0 (.int .u8 0) 1 Try.underlying54 hi hz0 hz1 hz2 rfl _ _ _ H2.out rfl (.int .u8 45) rfl rfl m3 m4 HBW.out HB2.out ?_; intro v3 w3 h1 h2 h3 h4; obtain ⟨a3, c3, rfl⟩ := h1.shape; have H3 := Lib.hid h1; have HB3 := Lib.hid h2; clear h1 h2 h3 h4)
      go_meet
      case rel =>
        have := HN.out
        refine ⟨a3, c3, _, n.natAbs, rfl, ?_, by omega, by omega, ⟨s ++ f ++ ⟨#[58]⟩ ++ ⟨#[45]⟩, ?_, ?_, ?_⟩, HB3.out, Nat.le_trans hB HB3.out.size⟩
        · refine congrArg (Value.int .u64) ?_
          simp only [IntKind.wrap_u64]
          omega
        · rw [ByteArray.size_append, ByteArray.size_append, ByteArray.size_append]; rfl
        · rw [byteCells_append, byteCells_append]; exact H3.out
        · refine L_inj ?_
          simp only [lineB, L_append, L_mkB, itoa, if_pos HN2.out, List.append_assoc]
          rfl
    · have HN2 := Lib.hid hn
      go_wp2
      go_meet
      case rel =>
        have := HN.out
        refine ⟨a2, c2, _, n.toNat, rfl, ?_, by omega, by omega, ⟨s ++ f ++ ⟨#[58]⟩, ?_, ?_, ?_⟩, HB2.out, Nat.le_trans hB HB2.out.size⟩
        · refine congrArg (Value.int .u64) ?_
          simp only [IntKind.wrap_u64]
          omega
        · rw [ByteArray.size_append, ByteArray.size_append]; rfl
        · rw [byteCells_append]; exact H2.out
        · refine L_inj ?_
          simp only [lineB, L_append, L_mkB, itoa, if_neg (show ¬ n < 0 by have := HN2.out; omega), List.append_assoc]
  case rest =>
  clear H2 HB2
  obtain ⟨a3, c3, m, U, rfl, rfl, hU, hm, HT, HBT, HSZ⟩ := hcut
  have HU := Lib.hid hU
  go_wp2
  go_loopw [7, 9] (fun uv iv wr => ∃ (ds : List UInt8) (u j : Nat) (cs : Array Value), iv = .int .i64 (j : Int) ∧ 4 ≤ j ∧ j ≤ 24 ∧ uv = .int .u64 (u : Int) ∧ u < 18446744073709551616 ∧ wr = wc.alloc (.cells cs 106) ∧ Hid (cs.size = 24 ∧ j + ds.length = 24 ∧ Dig U u ds ∧ cs.toList.drop (24 - ds.length) = bcs ds)) (fun _ iv _ => (intOf iv).toNat)
  case atStart => exact ⟨[], U, 24, _, rfl, by omega, by omega, rfl, hU, rfl, rfl, rfl, .inl ⟨rfl, rfl⟩, rfl⟩
  case round =>
    clear hU
    obtain ⟨ds, u, j, cs, rfl, hj4, hj24, rfl, hu, rfl, HD⟩ := hrel
    have hwb : (wc.alloc (.cells cs 106)).heap[wc.heap.size]? = some (.cells cs 106 (0, 0)) := heap_alloc_new wc _
    have HWB := Lib.hid hwb
    by_cases hc : j = 24 ∨ 0 < u
    · have hj5 : 5 ≤ j := by
        obtain ⟨h1, h2, h3, h4⟩ := HD.out
        have := (h3.step (hc.imp (fun e => List.eq_nil_of_length_eq_zero (by omega)) id)).len HU.out
        rw [List.length_cons] at this
        omega
      obtain ⟨i, rfl⟩ : ∃ i, j = i + 1 := ⟨j - 1, by omega⟩
      obtain ⟨x, hx⟩ : ∃ x, (wc.alloc (.cells cs 106)).cell? ⟨wc.heap.size, i, none⟩ = some x := by
        rw [cell_of_row _ _ _ _ _ _ hwb]
        have := HD.out.1
        exact ⟨_, Array.getElem?_eq_getElem (by omega)⟩
      have HC : Hid (i + 1 = 24 ∨ 0 < u) := hc
      clear hwb
      have tail : Hid (∀ c : Int, c = ((UInt8.ofNat (48 + u % 10)).toNat : Int) → Hid ((cs.setIfInBounds i (.int .u8 c)).size = 24 ∧ i + (UInt8.ofNat (48 + u % 10) :: ds).length = 24 ∧ Dig U (u / 10) (UInt8.ofNat (48 + u % 10) :: ds) ∧ (cs.setIfInBounds i (.int .u8 c)).toList.drop (24 - (UInt8.ofNat (48 + u % 10) :: ds).length) = bcs (UInt8.ofNat (48 + u % 10) :: ds))) := by
        rintro c rfl
        obtain ⟨h1, h2, h3, h4⟩ := HD.out
        refine ⟨by rw [Array.size_setIfInBounds]; exact h1, by rw [List.length_cons]; omega, h3.step (HC.out.imp (fun e => List.eq_nil_of_length_eq_zero (by omega)) id), ?_⟩
        have := bcs_cons (c := UInt8.ofNat (48 + u % 10)) h1 (by omega) h4
        rw [show 23 - ds.length = i by omega] at this
        exact this
      have hd10 : (u : Int) % 10 < 10 := by omega
      have hd0 : (0 : Int) ≤ (u : Int) % 10 := by omega
      have hu10 : u / 10 < 18446744073709551616 := by omega
      have hc8 : (48 : Int) + (u : Int) % 10 = ((UInt8.ofNat (48 + u % 10)).toNat : Int) := by rw [UInt8.toNat_ofNat']; omega
      have HC8 := Lib.hid hc8
      clear hc8 hc
      by_cases h24 : i = 23
      · subst h24
        go_wp2
        go_roundw
        case rel => exact ⟨_, u / 10, 23, _, rfl, by omega, by omega, rfl, hu10, rfl, tail.out _ HC8.out⟩
        case measure => simp [intOf]
      · have hu0 : 0 < u := by rcases HC.out with h | h; omega; exact h
        go_wp2
        go_roundw
        case rel => exact ⟨_, u / 10, i, _, rfl, by omega, by omega, rfl, hu10, rfl, tail.out _ HC8.out⟩
        case measure => simp [intOf]
    · have hj : ¬ j = 24 := fun e => hc (.inl e)
      have hu0 : u = 0 := by omega
      subst hu0
      clear hwb hc
      obtain ⟨h1, h2, h3, h4⟩ := HD.out
      have hds : ds = decDigits U := h3.done (fun e => by subst e; simp at h2; omega) rfl
      obtain ⟨T, hT1, hT2, hT3⟩ := HT.out
      have hjl : 24 - j = (mkB ds).size := by rw [size_mkB]; omega
      have hsrc : Src Try.prog 1 54 (.slice (some ⟨wc.heap.size, j, none⟩) (24 - j) (24 - j)) (24 - j) (byteCells (mkB ds)) (wc.alloc (.cells cs 106)) := by
        refine Src.ofSlice _ Try.underlying54 ⟨wc.heap.size, j, none⟩ (24 - j) (24 - j) _ (by rw [byteCells_length, Nat.mul_one, hjl]) (fun k x hx => ?_) (byteCells_one' _)
        rw [Addr.add_lit, cell_of_row _ _ _ _ _ _ HWB.out]
        rw [bcs_mkB, ← h4, List.getElem?_drop, show 24 - ds.length = j by omega, Array.getElem?_toList] at hx
        exact hx
      have m3 : m + (24 - j) ≤ maxLen := by unfold maxLen; omega
      have m4 : (m + (24 - j)) * 1 ≤ 140737488355328 := by omega
      have m5 : B ≤ (wc.alloc (.cells cs 106)).heap.size := by have := HSZ.out; simp; omega
      have HSRC := Lib.hid hsrc
      have HRT := Lib.hid (hT2.alloc (.cells cs 106))
      have HFIN := Lib.hid (show T.size = m ∧ T ++ mkB ds = s ++ lineB f n ∧ 24 - j = (mkB ds).size from ⟨hT1, by rw [hds]; exact hT3, hjl⟩)
      have HBL := Lib.hid (HBT.out.alloc HSZ.out (.cells cs 106))
      clear h1 h2 h3 h4 hds hT1 hT2 hT3 hjl hsrc
      have hsl := fun W b => slice_buf W b j (by omega)
      go_wp2_with (at_builtin; refine wpList_append_row _ rfl (.tmp 41) (.tmp 43) 54 54 rfl B 5 i0 (.int .u8 0) 1 1 Try.underlying54 hi hz0 hz1 hz2 rfl _ _ _ HRT.out rfl _ _ _ HSRC.out rfl m3 m4 m5 ?_; intro v9 w9 h1 h2 h3)
      go_ret
      obtain ⟨hT1, hT3, hjl⟩ := HFIN.out
      refine ⟨v9, rfl, ?_, HBL.out.grown h2 m5 (HRT.out.blk)⟩
      rw [← hT3]
      refine row_add (s := T) (mkB ds) ?_ hjl rfl
      rw [hT1]
      exact h1
end Go.Proofs.Ytnjdckhaecdldaa
