/-
  The contract of impl.FileLineText and the walk of the law FnFileLineText, where the library's table of powers of ten reads as its text lays it. For every input.
-/
import Derived.Test.YtdaeenabeadfmaaDoorAppLine
import Derived.Test.YtdaeenabeadfmaaDoorItoa
import Derived.Test.YtdaeenabeadfmaaDoorLong
import Derived.Lib.ConvBytes
import Derived.Lib.AppendIntMem
import Derived.OpenShut
namespace Go.Proofs.YtdaeenabeadfmaaDoor
open Go.RowKit Go.PlainAid

theorem zzLine_any (s f : ByteArray) (n : Int) (B : Nat) (v : Value) (w : World) (hr : Row w B 1 v s.size (byteCells s)) (hB : B ≤ w.heap.size) (hs : s.size ≤ 4294967296) (hf : f.size ≤ 4294967296)
    (n0 : -9223372036854775808 ≤ n) (n1 : n ≤ 9223372036854775807) :
    Calls Tryd.prog 7 #[v, .string f, .int .i64 n] w (LinePost B (s ++ lineB f n) w) := by
  have HC := Lib.hid (appLine_any s f n B v w hr hB hs hf n0 n1)
  clear hr
  go_enter Tryd.func7, Tryd.ntmps7
  go_wp2_with fail
  refine HC.out.mono ?_
  rintro e w1 ⟨v', rfl, hr, hb⟩
  have HR := Lib.hid hr
  have HB := Lib.hid hb
  clear hr hb
  go_wp2
  go_ret
  exact ⟨v', rfl, HR.out, HB.out⟩
theorem implLine_any (s f : ByteArray) (n : Int) (w : World) (hs : s.size ≤ 1000000) (hf : f.size ≤ 1000000) (n0 : -9223372036854775808 ≤ n) (n1 : n ≤ 9223372036854775807) :
    Calls Tryd.prog 5 #[.string s, .string f, .int .i64 n] w fun e w' => e = .returned (.string (s ++ lineB f n)) ∧ Below w.heap.size w w' := by
  have HN := Lib.hid (show -9223372036854775808 ≤ n ∧ n ≤ 9223372036854775807 from ⟨n0, n1⟩)
  clear n0 n1
  have hcv := fun W => Lib.run_convert_string_bytes (P := Tryd.prog) W 9 27 5 s Tryd.underlying9 Tryd.underlying27 Tryd.underlying5
  go_enter Tryd.func5, Tryd.ntmps5
  go_wp2_with fail
  refine (zzLine_any s f n w.heap.size _ _ (row_of_bytes w _ s w.heap.size (Nat.le_refl _) (by unfold maxLen; omega)) (by rw [Lib.bytesWorld_size]; omega) (by omega) (by omega) HN.out.1 HN.out.2).mono ?_
  rintro e w1 ⟨v', rfl, hr, hb⟩
  have hcv2 := run_string_row w1 Tryd.underlying27 Tryd.underlying5 hr 9 Tryd.underlying9
  have HB := Lib.hid ((below_bytesWorld (Below.refl w.heap.size w) (Nat.le_refl _) _ _).trans hb)
  clear hr hb
  go_wp2
  go_ret
  exact ⟨rfl, HB.out⟩
set_option maxRecDepth 100000 in
theorem walkFnFileLineText (w : World) (hT : Lib.TabIs Tryd.prog w pow10Name .u64 Lib.pow10Tab) (s : ByteArray) (ws : s.size ≤ maxLen) (f : ByteArray) (wf : f.size ≤ maxLen) (n : Int) (wn : (Lit.int .i64 n).wf = true) :
    Calls Tryd.prog 3 #[.string s, .string f, .int .i64 n] w fun e w' => e = .returned (.bool true) ∧ Below w.heap.size w w' := by
  obtain ⟨n0, n1⟩ := bounds_i64 wn
  have HN := Lib.hid (show -9223372036854775808 ≤ n ∧ n ≤ 9223372036854775807 from ⟨n0, n1⟩)
  have HT := Lib.hid (Lib.tabBelow_of_tabIs hT)
  clear n0 n1 wn hT
  unfold maxLen at ws
  unfold maxLen at wf
  by_cases gs : 2147483647 < s.size
  · go_enter Tryd.func3, Tryd.ntmps3
    go_wp2
    go_ret
    exact ⟨rfl, Below.refl _ _⟩
  by_cases gf : 2147483647 < f.size
  · go_enter Tryd.func3, Tryd.ntmps3
    go_wp2
    go_ret
    exact ⟨rfl, Below.refl _ _⟩
  by_cases gt : 1000000 < s.size + f.size
  · go_enter Tryd.func3, Tryd.ntmps3
    go_wp2_with (go_at_call 4; refine (tooLong_yes2 _ _ _ (by omega) (by omega) (by omega) (by omega) (by omega)).mono ?_; rintro e w' ⟨rfl, rfl⟩)
    go_ret
    exact ⟨rfl, (Below.refl _ _).alloc (Nat.le_refl _) _⟩
  have HB0 := Lib.hid ((Below.refl w.heap.size w).alloc (Nat.le_refl _) (.cells #[.int .i64 (s.size : Int), .int .i64 (f.size : Int)] 3))
  go_enter Tryd.func3, Tryd.ntmps3
  go_wp2_with (go_at_call 4; refine (tooLong_no2 _ _ _ (by omega) (by omega) (by omega)).mono ?_; rintro e w' ⟨rfl, rfl⟩)
  refine (implLine_any s f n _ (by omega) (by omega) HN.out.1 HN.out.2).mono ?_
  rintro e w1 ⟨rfl, hb1⟩
  have HB1 := Lib.hid (HB0.out.trans (hb1.mono (by simp)))
  clear hb1
  go_wp2_with fail
  refine (itoa_any n HN.out.1 HN.out.2 _ (HT.out _ HB1.out)).mono ?_
  rintro e w2 ⟨rfl, k, os, rfl⟩
  have HB2 := Lib.hid (HB1.out.trans (Lib.below_grow w.heap.size w1 HB1.out.size k os))
  have HE : Hid (s ++ f ++ ⟨#[58]⟩ ++ ⟨(Lib.itoa n).toArray⟩ = s ++ lineB f n) := by
    show _ = _
    refine L_inj ?_
    simp only [lineB, L_append, L_mkB, List.append_assoc]
    rfl
  have hX : (⟨(Lib.itoa n).toArray⟩ : ByteArray).size ≤ 21 := by
    have := Lib.itoa_length_le n HN.out.1 HN.out.2
    show (Lib.itoa n).toArray.size ≤ 21
    rw [List.size_toArray]; exact this
  generalize (⟨(Lib.itoa n).toArray⟩ : ByteArray) = X at *
  generalize lineB f n = Y at *
  generalize Sort.grow (w1.drewN k) os = W2 at *
  go_wp2
  go_ret
  exact ⟨retT (by rw [HE.out]; simp), HB2.out⟩
end Go.Proofs.YtdaeenabeadfmaaDoor
