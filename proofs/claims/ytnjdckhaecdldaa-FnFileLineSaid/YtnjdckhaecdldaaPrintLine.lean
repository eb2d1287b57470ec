/-
  The contract of bisect.printFileLine: it writes the marker, the file and the line, and an end of line. For every number and every file of at most 1000000 bytes.
-/
import Derived.Test.YtnjdckhaecdldaaMarkPrintP
import Derived.Test.YtnjdckhaecdldaaAppLine
import Derived.Test.YtnjdckhaecdldaaHashP
import Derived.Laws.MakeOwn
set_option linter.unusedVariables false
namespace Go.Proofs.Ytnjdckhaecdldaa
open Go.RowKit Go.PlainAid

/-- the line that is written -/
def lineT (N : Nat) (f : ByteArray) (n : Int) : ByteArray := marker N ++ lineB f n ++ nl
theorem size_lineB (f : ByteArray) (n : Int) (n0 : -9223372036854775808 ≤ n) (n1 : n ≤ 9223372036854775807) : f.size + 1 ≤ (lineB f n).size ∧ (lineB f n).size ≤ f.size + 22 := by
  have := Lib.itoa_length_le n n0 n1
  unfold lineB
  rw [ByteArray.size_append, ByteArray.size_append, size_mkB]
  have e : (⟨#[58]⟩ : ByteArray).size = 1 := rfl
  omega
set_option maxRecDepth 100000 in
set_option maxHeartbeats 4000000 in
theorem printLine_any (g B : Nat) (s : ByteArray) (N : Nat) (hN : N < 18446744073709551616) (f : ByteArray) (n : Int) (w : World) (hs : SinkAt w g B s) (hB : B ≤ w.heap.size) (hgB : B ≤ g) (hsz : s.size ≤ 4294967) (hf : f.size ≤ 1000000)
    (n0 : -9223372036854775808 ≤ n) (n1 : n ≤ 9223372036854775807) :
    Calls Try.prog 41 #[.iface 64 (.pointer (some ⟨g, 0, none⟩)), .int .u64 (N : Int), .string f, .int .i64 n] w (PrintPost g B (s ++ lineT N f n) w) := by
  obtain ⟨i0, hi, hz0, hz1, hz2⟩ := info_parts infoU8
  have HN := Lib.hid hN
  have HS := Lib.hid hs
  have HL := Lib.hid (show -9223372036854775808 ≤ n ∧ n ≤ 9223372036854775807 from ⟨n0, n1⟩)
  clear hN hs n0 n1
  obtain ⟨wm, hmk, hown, hgr⟩ := run_make_own (P := Try.prog) w w.heap.size 54 5 i0 (.int .u8 0) 1 Try.underlying54 hi hz0 hz1 .i64 .i64 (f.size + 64) (by rw [hz2]; omega) (by unfold maxLen; omega) (Nat.le_refl _)
  rw [show (((f.size + 64 : Nat)) : Int) = 40 + (f.size : Int) + 24 by omega] at hmk
  have HM := Lib.hid (Row.own hown)
  have HBM := Lib.hid ((Below.refl w.heap.size w).grown hgr (Nat.le_refl _) (fun k hk => by cases hk))
  clear hown hgr
  have hms := size_marker N
  have hlb := size_lineB f n HL.out.1 HL.out.2
  go_enter Try.func41, Try.ntmps41
  go_wp2_with fail
  refine (appendMarker_any N HN.out ByteArray.empty w.heap.size _ _ HM.out HBM.out.size (by decide)).mono ?_
  rintro e w1 ⟨v1, rfl, r1, g1, _⟩
  rw [ByteArray.empty_append] at r1
  have HB1 := Lib.hid (HBM.out.grown g1 HBM.out.size (fun k hk => HM.out.blk k hk))
  have HR1 := Lib.hid r1
  clear hmk HM HBM g1 r1
  go_wp2_with fail
  refine (appLine_any (marker N) f n w.heap.size _ _ HR1.out HB1.out.size (by omega) (by omega) HL.out.1 HL.out.2).mono ?_
  rintro e w2 ⟨v2, rfl, r2, b2⟩
  have HB2 := Lib.hid (HB1.out.trans b2)
  obtain ⟨a2, c2, rfl⟩ := r2.shape
  have hsz2 : (marker N ++ lineB f n).size ≤ 2000000 := by rw [ByteArray.size_append]; omega
  have HR2 := Lib.hid r2
  clear HR1 HB1 r2 b2
  generalize hX : marker N ++ lineB f n = X at *
  have HX := Lib.hid hX
  clear hX
  have m1 : X.size + 1 ≤ maxLen := by unfold maxLen; omega
  have m2 : (X.size + 1) * 1 ≤ 140737488355328 := by omega
  go_wp2_with (at_builtin; refine wpList_append_one w2 rfl (.tmp 24) (.tmp 25) 54 rfl w.heap.size 5 i0 (.int .u8 0) 1 Try.underlying54 hi hz0 hz1 hz2 rfl _ _ _ HR2.out rfl (.int .u8 10) rfl rfl m1 m2 HB2.out.size HB2.out ?_; intro v3 w3 h1 h2 h3 h4; obtain ⟨a3, c3, rfl⟩ := h1.shape; have H1 := Lib.hid h1; have H2 := Lib.hid h2; clear h1 h2 h3 h4)
  have hr3 : Row w3 w.heap.size 1 (.slice a3 (X ++ nl).size c3) (X ++ nl).size (byteCells (X ++ nl)) := by
    rw [ByteArray.size_append, byteCells_append]; exact H1.out
  have e34 : (X ++ nl).size = X.size + 1 := by rw [ByteArray.size_append]; rfl
  have hw := write_any g B s (X ++ nl) a3 c3 w3 (HS.out.keep H2.out.size H2.out.block) (Nat.le_trans hB H2.out.size) hgB (by rw [e34]; omega) (src_row hr3)
  rw [e34] at hw
  refine hw.mono ?_
  rintro e w4 ⟨rfl, h3, h4⟩
  have H3 := Lib.hid h3
  have H4 := Lib.hid h4
  clear hw h3 h4 hr3 e34
  go_wp2
  go_ret
  refine ⟨rfl, ?_, (H2.out.mono hB).trans H4.out⟩
  unfold lineT
  rw [HX.out]
  exact H3.out
end Go.Proofs.Ytnjdckhaecdldaa
