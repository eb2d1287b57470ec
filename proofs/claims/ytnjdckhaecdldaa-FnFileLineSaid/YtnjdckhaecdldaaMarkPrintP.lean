/-
  The contracts of (*sink).Write, bisect.PrintMarker, impl.PrintMarker and the walk of the law FnMarkerPrinted. For every number.
-/
import Derived.Test.YtnjdckhaecdldaaMarkReadP
import Derived.Test.YtnjdckhaecdldaaLong
import Derived.Lib.ConvBytes
import Derived.Deep.QuietTactic
import Derived.BigQuiet
import Derived.Deep.RegionWith
namespace Go.Proofs.Ytnjdckhaecdldaa
open Go.RowKit Go.PlainAid

/-- the sink's block -/
def SinkAt (w : World) (g B : Nat) (s : ByteArray) : Prop := ∃ v, w.heap[g]? = some (.cells #[v] 66 (0, 0)) ∧ Row w B 1 v s.size (byteCells s) ∧ v.ownBlock ≠ some g

theorem write_any (g B : Nat) (s t : ByteArray) (a : Option Addr) (c : Nat) (w : World) (hs : SinkAt w g B s) (hB : B ≤ w.heap.size) (hgB : B ≤ g) (hsz : s.size + t.size ≤ 4294967296)
    (ht : Src Try.prog 1 54 (.slice a t.size c) t.size (byteCells t) w) :
    Calls Try.prog 59 #[.pointer (some ⟨g, 0, none⟩), .slice a t.size c] w fun e w' => e = .returned (.tuple #[.int .i64 (t.size : Int), .nilIface]) ∧ SinkAt w' g B (s ++ t) ∧ Below B w w' := by
  obtain ⟨i0, hi, hz0, hz1, hz2⟩ := info_parts infoU8
  obtain ⟨v, hg, hr, hne⟩ := hs
  have hc : w.cell? ⟨g, 0, none⟩ = some v := cell_of_row w g 0 _ _ _ hg
  have HR := Lib.hid hr
  have HT := Lib.hid ht
  obtain ⟨ao, cap, rfl⟩ := hr.shape
  have HG := Lib.hid hg
  clear hr ht hg
  have m1 : s.size + t.size ≤ maxLen := by unfold maxLen; omega
  have m2 : (s.size + t.size) * 1 ≤ 140737488355328 := by omega
  have hglt : g < w.heap.size := block_lt_of_cell hc
  have HL := Lib.hid hglt
  have HNE := Lib.hid hne
  clear hglt hne
  go_enter Try.func59, Try.ntmps59
  go_wp2_with (at_builtin; refine wpList_append_row _ rfl (.tmp 10) (.tmp 11) 54 54 rfl B 5 i0 (.int .u8 0) 1 1 Try.underlying54 hi hz0 hz1 hz2 rfl _ _ _ HR.out rfl _ _ _ HT.out rfl m1 m2 hB ?_; intro v' w1 h1 h2 h3; obtain ⟨a', c', rfl⟩ := h1.shape; have hg1 := (h2.block g HL.out (fun e => HNE.out e.symm)).trans HG.out; have hc1 := cell_of_row w1 g 0 _ _ _ hg1; have hf1 := frozen_of_row w1 g 0 _ _ hg1; simp only [List.getElem?_toArray, List.getElem?_cons_zero] at hc1; have H1 := Lib.hid h1; have H2 := Lib.hid h2; have H3 := Lib.hid h3; have HG1 := Lib.hid hg1; clear h1 h2 h3 hg1)
  go_ret2
  have hne2 : (Value.slice a' (s.size + t.size) c').ownBlock ≠ some g := by
    rcases H3.out with h | h
    · rw [h]; exact HNE.out
    · rw [h]; intro e; injection e with e; have := HL.out; omega
  refine ⟨rfl, ⟨_, heap_setCell_same w1 g 0 _ _ _ HG1.out, ?_, hne2⟩, ?_⟩
  · rw [ByteArray.size_append, byteCells_append]
    exact H1.out.setCell hne2 _
  · exact ((Below.refl _ _).grown H2.out hB HR.out.blk).setCell (by exact hgB) _

theorem row_buf0 (w : World) (B : Nat) (hB : B ≤ w.heap.size) (cs : Array Value) (t : TypeId) (hc : cs.size = 50) : Row (w.alloc (.cells cs t)) B 1 (.slice (some ⟨w.heap.size, 0, none⟩) 0 50) 0 [] := by
  refine ⟨rfl, fun g hg => (by simp [Value.ownBlock] at hg; subst hg; exact ⟨hB, by simp⟩), _, 50, rfl, by omega, by simp [maxLen], fun _ => ⟨w.heap.size, 0, rfl, hB, by simp, fun j hj => absurd hj (by omega), fun j _ h2 => ⟨?_, ?_⟩⟩⟩
  · rw [Nat.zero_add, cell_of_row _ _ _ _ _ _ (heap_alloc_new w _), Array.getElem?_eq_getElem (by omega)]; rfl
  · rw [Nat.zero_add]; exact frozen_of_row _ _ _ _ _ (heap_alloc_new w _)
theorem src_row {w : World} {B : Nat} {a : Option Addr} {c : Nat} {s : ByteArray} (h : Row w B 1 (.slice a s.size c) s.size (byteCells s)) : Src Try.prog 1 54 (.slice a s.size c) s.size (byteCells s) w := by
  cases a with
  | none =>
    have h0 : s.size = 0 := by
      rcases Nat.eq_zero_or_pos s.size with h0 | h0
      · exact h0
      · obtain ⟨_, _, _, e, _⟩ := h.at_ h0 (by omega)
        cases e
    have e : byteCells s = [] := List.eq_nil_of_length_eq_zero (by rw [byteCells_length]; exact h0)
    rw [h0, e]
    exact Src.ofNil w Try.underlying54 c
  | some ad =>
    refine Src.ofSlice w Try.underlying54 ad s.size c _ (by rw [byteCells_length, Nat.mul_one]) (fun j u hu => ?_) (byteCells_one _)
    have hj : j < s.size := by
      have := (List.getElem?_eq_some_iff.1 hu).1
      rw [byteCells_length] at this; exact this
    obtain ⟨g, o, cap, e, _, _, _, _, hx⟩ := h.at_ (by omega) (by omega)
    simp only [Value.slice.injEq, Option.some.injEq] at e
    obtain ⟨rfl, _⟩ := e
    rw [Addr.add_lit]
    exact (hx j (by omega)).trans hu

def nl : ByteArray := ⟨#[10]⟩
def PrintPost (g B : Nat) (s : ByteArray) (w : World) (e : Ending) (w' : World) : Prop := e = .returned .nilIface ∧ SinkAt w' g B s ∧ Below B w w'
theorem SinkAt.keep {w w' : World} {g B : Nat} {s : ByteArray} (h : SinkAt w g B s) (hs : w.heap.size ≤ w'.heap.size) (hb : ∀ k, k < w.heap.size → w'.heap[k]? = w.heap[k]?) : SinkAt w' g B s := by
  obtain ⟨v, h1, h2, h3⟩ := h
  have hg : g < w.heap.size := by
    rcases Nat.lt_or_ge g w.heap.size with h | h
    · exact h
    · rw [Array.getElem?_eq_none h] at h1; cases h1
  exact ⟨v, (hb g hg).trans h1, h2.keep hs (fun k _ _ hk => hb k hk), h3⟩

set_option maxRecDepth 100000 in
theorem printMarker_any (g B : Nat) (s : ByteArray) (n : Nat) (hn : n < 18446744073709551616) (w : World) (hs : SinkAt w g B s) (hB : B ≤ w.heap.size) (hgB : B ≤ g) (hsz : s.size ≤ 4294967) :
    Calls Try.prog 40 #[.iface 64 (.pointer (some ⟨g, 0, none⟩)), .int .u64 (n : Int)] w (PrintPost g B (s ++ (marker n ++ nl)) w) := by
  obtain ⟨i0, hi, hz0, hz1, hz2⟩ := info_parts infoU8
  have HN := Lib.hid hn
  have HS := Lib.hid hs
  clear hn hs
  go_enter Try.func40, Try.ntmps40
  go_wp2_with fail
  refine (appendMarker_any n HN.out ByteArray.empty w.heap.size _ _ (row_buf0 w w.heap.size (Nat.le_refl _) _ _ rfl) (by simp) (by decide)).mono ?_
  rintro e w1 ⟨v', rfl, hr, hg, hbk⟩
  rw [ByteArray.empty_append] at hr
  have hb1 : Below w.heap.size w w1 := ((Below.refl _ _).alloc (Nat.le_refl _) _).grown hg (by simp) (fun k hk => by simp [Value.ownBlock] at hk; omega)
  have HB1 := Lib.hid hb1
  have HR := Lib.hid hr
  obtain ⟨a1, c1, rfl⟩ := hr.shape
  clear hr hg hbk hb1
  have m1 : (marker n).size + 1 ≤ maxLen := by rw [size_marker]; unfold maxLen; omega
  have m2 : ((marker n).size + 1) * 1 ≤ 140737488355328 := by rw [size_marker]; omega
  go_wp2_with (at_builtin; refine wpList_append_one w1 rfl (.tmp 12) (.tmp 13) 54 rfl w.heap.size 5 i0 (.int .u8 0) 1 Try.underlying54 hi hz0 hz1 hz2 rfl _ _ _ HR.out rfl (.int .u8 10) rfl rfl m1 m2 HB1.out.size HB1.out ?_; intro v2 w2 h1 h2 h3 h4; obtain ⟨a2, c2, rfl⟩ := h1.shape; have H1 := Lib.hid h1; have H2 := Lib.hid h2; clear h1 h2 h3 h4)
  have hr2 : Row w2 w.heap.size 1 (.slice a2 (marker n ++ nl).size c2) (marker n ++ nl).size (byteCells (marker n ++ nl)) := by
    rw [ByteArray.size_append, byteCells_append]; exact H1.out
  have e34 : (marker n ++ nl).size = (marker n).size + 1 := by rw [ByteArray.size_append]; rfl
  have hw := write_any g B s (marker n ++ nl) a2 c2 w2 (HS.out.keep H2.out.size H2.out.block) (Nat.le_trans hB H2.out.size) hgB (by rw [e34, size_marker]; omega) (src_row hr2)
  rw [e34] at hw
  refine hw.mono ?_
  rintro e w3 ⟨rfl, h3, h4⟩
  have H3 := Lib.hid h3
  have H4 := Lib.hid h4
  clear hw h3 h4 hr2 e34
  go_wp2
  go_ret
  exact ⟨rfl, H3.out, (H2.out.mono hB).trans H4.out⟩

end Go.Proofs.Ytnjdckhaecdldaa
