/-
  The contracts of (*Matcher).fileLine, (*Matcher).FileLine and impl.FileLine: what is written of the change of a file and a line, and whether it is enabled. For every pattern, every file of at most 1000000 bytes, every number.
-/
import Derived.Test.YtnjdckhaecdldaaPrintLine
import Derived.Test.YtnjdckhaecdldaaJudge
set_option linter.unusedVariables false
namespace Go.Proofs.Ytnjdckhaecdldaa
open Go.RowKit Go.PlainAid

def hashI (f : ByteArray) (n : Int) : Int := fnvN (IntKind.u64.wrap n) (fnvS f 14695981039346656037 f.size) 8
theorem hashI_nat (f : ByteArray) (n : Int) : ∃ N : Nat, hashI f n = (N : Int) ∧ N < 18446744073709551616 := by
  have e : hashI f n = IntKind.u64.wrap (bits .xor .u64 (fnvN (IntKind.u64.wrap n) (fnvS f 14695981039346656037 f.size) 7) (numB (IntKind.u64.wrap n) 7) * 1099511628211) := rfl
  generalize bits .xor .u64 (fnvN (IntKind.u64.wrap n) (fnvS f 14695981039346656037 f.size) 7) (numB (IntKind.u64.wrap n) 7) * 1099511628211 = y at e
  have e2 : IntKind.u64.wrap y = y % 18446744073709551616 := rfl
  rw [e2] at e
  exact ⟨(y % 18446744073709551616).toNat, by omega, by omega⟩
/-- what is written -/
def outT (pr on : Bool) (N : Nat) (f : ByteArray) (n : Int) : ByteArray := if pr then (if on then marker N ++ nl else lineT N f n) else ByteArray.empty
def FLPost (g B : Nat) (b : Bool) (s : ByteArray) (w : World) (e : Ending) (w' : World) : Prop := e = .returned (.bool b) ∧ SinkAt w' g B s ∧ Below B w w'
set_option maxRecDepth 100000 in
set_option maxHeartbeats 4000000 in
theorem fileLine_any (b : Nat) (v q en : Bool) (sv : Value) (list : List Cond) (g B : Nat) (f : ByteArray) (n : Int) (N : Nat) (hH : hashI f n = (N : Int)) (hN : N < 18446744073709551616) (w : World)
    (hm : MatAt w b v q en sv) (hr : Row w (b + 1) 3 sv list.length (condCells list)) (hl : list.length ≤ 8589934592) (hs : SinkAt w g B ByteArray.empty) (hB : B ≤ w.heap.size) (hgB : B ≤ g) (hbB : b < B) (hrB : ∀ k, sv.ownBlock = some k → k < B)
    (hf : f.size ≤ 1000000) (n0 : -9223372036854775808 ≤ n) (n1 : n ≤ 9223372036854775807) :
    Calls Try.prog 33 #[.pointer (some ⟨b, 0, none⟩), .iface 64 (.pointer (some ⟨g, 0, none⟩)), .string f, .int .i64 n] w (FLPost g B (matchL list (N : Int) == en) (outT (!q && matchL list (N : Int)) (!v) N f n) w) := by
  have HMm := Lib.hid (show f.size ≤ maxLen by unfold maxLen; omega)
  have HM := Lib.hid hm
  have HR := Lib.hid hr
  have HS := Lib.hid hs
  have HN := Lib.hid hN
  have HH : Hid (fnvN (IntKind.u64.wrap n) (fnvS f 14695981039346656037 f.size) 8 = (N : Int)) := hH
  have HL := Lib.hid (show -9223372036854775808 ≤ n ∧ n ≤ 9223372036854775807 from ⟨n0, n1⟩)
  have HRB := Lib.hid hrB
  clear hm hr hs hN hH n0 n1 hrB
  go_enter Try.func33, Try.ntmps33
  go_wp2_with fail
  refine (hash_any f n _ HMm.out (wrap_u64_ok n).1 (wrap_u64_ok n).2 _ _ (heap_alloc_new _ _)).mono ?_
  rintro e w' ⟨rfl, rfl⟩
  rw [HH.out]
  have HM1 := Lib.hid (HM.out.alloc (.cells #[.iface 9 (.string f), .iface 3 (.int .i64 n)] 20))
  have HR1 := Lib.hid (HR.out.alloc (.cells #[.iface 9 (.string f), .iface 3 (.int .i64 n)] 20))
  have HB1 := Lib.hid ((Below.refl B w).alloc hB (.cells #[.iface 9 (.string f), .iface 3 (.int .i64 n)] 20))
  have HS1 := Lib.hid (HS.out.keep (w' := w.alloc (.cells #[.iface 9 (.string f), .iface 3 (.int .i64 n)] 20)) (by simp) (fun k hk => Below.heap_alloc w _ k hk))
  generalize w.alloc (.cells #[.iface 9 (.string f), .iface 3 (.int .i64 n)] 20) = W1 at *
  clear HM HR HS
  go_wp2_with fail
  refine (shouldPrint_any _ b _ _ _ _ _ _ HM1.out HR1.out hl).mono ?_
  rintro e w2 ⟨rfl, k2, rfl⟩
  have HM2 := Lib.hid (HM1.out.drewN k2)
  have HR2 := Lib.hid (HR1.out.drewN k2)
  have HB2 := Lib.hid (below_drewN HB1.out k2)
  have HS2 := Lib.hid (HS1.out.keep (w' := W1.drewN k2) (Nat.le_refl _) (fun _ _ => rfl))
  generalize W1.drewN k2 = W2 at *
  clear HM1 HR1 HB1 HS1
  cases hpr : (!q && matchL list (N : Int)) with
  | false =>
    have HPR := Lib.hid hpr
    clear hpr
    go_wp2_with fail
    refine (shouldEnable_any _ b _ _ _ _ _ _ HM2.out HR2.out hl).mono ?_
    rintro e w3 ⟨rfl, k3, rfl⟩
    go_wp2
    go_ret
    refine ⟨rfl, ?_, below_drewN HB2.out k3⟩
    rw [HPR.out]
    exact HS2.out.keep (w' := W2.drewN k3) (Nat.le_refl _) (fun _ _ => rfl)
  | true =>
    have HPR := Lib.hid hpr
    clear hpr
    go_wp2_with fail
    refine (markerOnly_any _ b _ _ _ _ HM2.out).mono ?_
    rintro e w3 ⟨rfl, rfl⟩
    cases v with
    | false =>
      go_wp2_with fail
      refine (printMarker_any g B ByteArray.empty N HN.out _ HS2.out (Nat.le_trans hB HB2.out.size) hgB (by decide)).mono ?_
      rintro e w4 ⟨rfl, hs4, hb4⟩
      have HM4 := Lib.hid (HM2.out.below hb4 hbB)
      have HR4 := Lib.hid (HR2.out.below hb4 HRB.out)
      have HS4 := Lib.hid hs4
      have HB4 := Lib.hid (HB2.out.trans hb4)
      clear hs4 hb4 HM2 HR2 HS2 HB2
      go_wp2_with fail
      refine (shouldEnable_any _ b _ _ _ _ _ _ HM4.out HR4.out hl).mono ?_
      rintro e w5 ⟨rfl, k5, rfl⟩
      go_wp2
      go_ret
      refine ⟨rfl, ?_, below_drewN HB4.out k5⟩
      have := HS4.out.keep (w' := w4.drewN k5) (Nat.le_refl _) (fun _ _ => rfl)
      rw [ByteArray.empty_append] at this
      rw [HPR.out]
      exact this
    | true =>
      go_wp2_with fail
      refine (printLine_any g B ByteArray.empty N HN.out f n _ HS2.out (Nat.le_trans hB HB2.out.size) hgB (by decide) hf HL.out.1 HL.out.2).mono ?_
      rintro e w4 ⟨rfl, hs4, hb4⟩
      have HM4 := Lib.hid (HM2.out.below hb4 hbB)
      have HR4 := Lib.hid (HR2.out.below hb4 HRB.out)
      have HS4 := Lib.hid hs4
      have HB4 := Lib.hid (HB2.out.trans hb4)
      clear hs4 hb4 HM2 HR2 HS2 HB2
      go_wp2_with fail
      refine (shouldEnable_any _ b _ _ _ _ _ _ HM4.out HR4.out hl).mono ?_
      rintro e w5 ⟨rfl, k5, rfl⟩
      go_wp2
      go_ret
      refine ⟨rfl, ?_, below_drewN HB4.out k5⟩
      have := HS4.out.keep (w' := w4.drewN k5) (Nat.le_refl _) (fun _ _ => rfl)
      rw [ByteArray.empty_append] at this
      rw [HPR.out]
      exact this
theorem FileLine_any (b : Nat) (v q en : Bool) (sv : Value) (list : List Cond) (g B : Nat) (f : ByteArray) (n : Int) (N : Nat) (hH : hashI f n = (N : Int)) (hN : N < 18446744073709551616) (w : World)
    (hm : MatAt w b v q en sv) (hr : Row w (b + 1) 3 sv list.length (condCells list)) (hl : list.length ≤ 8589934592) (hs : SinkAt w g B ByteArray.empty) (hB : B ≤ w.heap.size) (hgB : B ≤ g) (hbB : b < B) (hrB : ∀ k, sv.ownBlock = some k → k < B)
    (hf : f.size ≤ 1000000) (n0 : -9223372036854775808 ≤ n) (n1 : n ≤ 9223372036854775807) :
    Calls Try.prog 24 #[.pointer (some ⟨b, 0, none⟩), .iface 64 (.pointer (some ⟨g, 0, none⟩)), .string f, .int .i64 n] w (FLPost g B (matchL list (N : Int) == en) (outT (!q && matchL list (N : Int)) (!v) N f n) w) := by
  have HC := Lib.hid (fileLine_any b v q en sv list g B f n N hH hN w hm hr hl hs hB hgB hbB hrB hf n0 n1)
  clear hH hN hm hr hs n0 n1 hrB
  go_enter Try.func24, Try.ntmps24
  go_wp2_with fail
  refine HC.out.mono ?_
  rintro e w1 ⟨rfl, h1, h2⟩
  have H1 := Lib.hid h1
  have H2 := Lib.hid h2
  clear h1 h2
  go_wp2
  go_ret
  exact ⟨rfl, H1.out, H2.out⟩
theorem FileLine_nil (i f : Value) (n : Value) (w : World) : Calls Try.prog 24 #[.pointer none, i, f, n] w fun e w' => e = .returned (.bool true) ∧ w = w' := by
  go_enter Try.func24, Try.ntmps24
  go_wp2
  go_ret
  exact ⟨rfl, rfl⟩
def ImplFLPost (p f : ByteArray) (n : Int) (N : Nat) (w : World) (e : Ending) (w' : World) : Prop :=
  e = .returned (.tuple #[.string (outT (judge (L p) (N : Int)).print (judge (L p) (N : Int)).only N f n), .bool (judge (L p) (N : Int)).enable, .bool (judge (L p) (N : Int)).known]) ∧ Below w.heap.size w w'
set_option maxRecDepth 100000 in
set_option maxHeartbeats 4000000 in
theorem implFileLine_any (p f : ByteArray) (n : Int) (N : Nat) (hH : hashI f n = (N : Int)) (hN : N < 18446744073709551616) (w : World) (hp : p.size ≤ 4294967296) (hf : f.size ≤ 1000000) (n0 : -9223372036854775808 ≤ n) (n1 : n ≤ 9223372036854775807) :
    Calls Try.prog 12 #[.string p, .string f, .int .i64 n] w (ImplFLPost p f n N w) := by
  have HN := Lib.hid (show hashI f n = (N : Int) ∧ N < 18446744073709551616 ∧ -9223372036854775808 ≤ n ∧ n ≤ 9223372036854775807 from ⟨hH, hN, n0, n1⟩)
  clear hH hN n0 n1
  go_enter Try.func12, Try.ntmps12
  go_wp2_with fail
  refine (new_any p _ hp).mono ?_
  rintro e w1 ⟨hb1, hq⟩
  have HB1 := Lib.hid hb1
  clear hb1
  rcases hq with ⟨h0, rfl⟩ | ⟨h0, hn, T, pv, rfl⟩ | ⟨h0, M, sv, b, hn, rfl, hb, hm, hr, hl⟩
  · have HJ : Hid (judge (L p) (N : Int) = ⟨true, true, true, false, false⟩) := by show _ = _; unfold judge; rw [L_isEmpty, if_pos (decide_eq_true h0)]
    clear h0
    have HB2 := Lib.hid (HB1.out.alloc HB1.out.size (.cells #[.slice none 0 0] 66))
    go_wp2_with fail
    refine (FileLine_nil _ _ _ _).mono ?_
    rintro e w2 ⟨rfl, rfl⟩
    have hcv := fun W => run_string_row W Try.underlying54 Try.underlying5 (s := ByteArray.empty) (B := 0) (Row.nil W 0 1) 9 Try.underlying9
    go_wp2
    go_ret3
    unfold ImplFLPost
    rw [HJ.out]
    exact ⟨rfl, HB2.out⟩
  · have HJ : Hid (judge (L p) (N : Int) = ⟨false, false, false, false, false⟩) := by show _ = _; unfold judge; rw [L_isEmpty, if_neg (by simp; intro h; rw [h] at h0; simp at h0), hn]
    clear h0 hn
    go_wp2
    go_ret3
    unfold ImplFLPost
    rw [HJ.out]
    exact ⟨rfl, HB1.out⟩
  · have HJ : Hid (judge (L p) (N : Int) = ⟨true, false, matchL M.list (N : Int) == M.enable, !M.quiet && matchL M.list (N : Int), !M.verbose⟩) := by show _ = _; unfold judge; rw [L_isEmpty, if_neg (by simp; intro h; rw [h] at h0; simp at h0), hn]
    have HM := Lib.hid (hm.alloc (.cells #[.slice none 0 0] 66))
    have HR := Lib.hid (hr.alloc (.cells #[.slice none 0 0] 66))
    have HLT := Lib.hid (show b < w1.heap.size ∧ ∀ k, sv.ownBlock = some k → k < w1.heap.size from ⟨hm.lt, hr.blt⟩)
    have hl2 : M.list.length ≤ 8589934592 := by omega
    have HB2 := Lib.hid (HB1.out.alloc HB1.out.size (.cells #[.slice none 0 0] 66))
    have HS : Hid (SinkAt (w1.alloc (.cells #[.slice none 0 0] 66)) w1.heap.size w1.heap.size ByteArray.empty) := ⟨.slice none 0 0, heap_alloc_new w1 _, Row.nil _ _ _, by simp [Value.ownBlock]⟩
    clear h0 hn hm hr hl hb
    go_wp2_with fail
    refine (FileLine_any b _ _ _ sv M.list w1.heap.size w1.heap.size f n N HN.out.1 HN.out.2.1 _ HM.out HR.out hl2 HS.out (by simp) (Nat.le_refl _) HLT.out.1 HLT.out.2 hf HN.out.2.2.1 HN.out.2.2.2).mono ?_
    rintro e w3 ⟨rfl, ⟨v, hg, hrow, _⟩, hb3⟩
    have HB3 := Lib.hid (HB2.out.trans (hb3.mono (by have := HB1.out.size; simp; omega)))
    have hc : w3.cell? ⟨w1.heap.size, 0, none⟩ = some v := cell_of_row w3 _ 0 _ _ _ hg
    have hcv := run_string_row w3 Try.underlying54 Try.underlying5 hrow 9 Try.underlying9
    obtain ⟨a9, q9, rfl⟩ := hrow.shape
    generalize hOT : outT (!M.quiet && matchL M.list (N : Int)) (!M.verbose) N f n = OT at *
    have HOT := Lib.hid hOT
    clear hOT hrow hg hb3 HM HR HS
    go_wp2
    go_ret3
    unfold ImplFLPost
    rw [HJ.out]
    exact ⟨by rw [← HOT.out]; rfl, HB3.out⟩
end Go.Proofs.Ytnjdckhaecdldaa
