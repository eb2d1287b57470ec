/-
  A round of bisect.New's main loop, and the loop. For every text of at most 4294967296 bytes.
-/
import Derived.Test.YtnjdckhaecdldaaNewR1a
import Derived.Test.YtnjdckhaecdldaaNewR1b
import Derived.Test.YtnjdckhaecdldaaNewR2a
import Derived.Test.YtnjdckhaecdldaaNewR2b
import Derived.Test.YtnjdckhaecdldaaNewR3a
import Derived.Test.YtnjdckhaecdldaaNewR3b
import Derived.Test.YtnjdckhaecdldaaNewR3c
import Derived.Test.YtnjdckhaecdldaaNewR3d
import Derived.Test.YtnjdckhaecdldaaNewR4plus
import Derived.Test.YtnjdckhaecdldaaNewR4minus
import Derived.Test.YtnjdckhaecdldaaNewR4end
set_option linter.unusedVariables false
namespace Go.Proofs.Ytnjdckhaecdldaa
open Go.RowKit Go.PlainAid

/-- behind the loop -/
def Done (s p : ByteArray) (w : World) (v q e : Bool) (wr : World) (lv : Value) (list : List Cond) : Prop :=
  newL (L s) = some ⟨v, q, e, list⟩ ∧ MatAt wr w.heap.size v q e lv ∧ Row wr (w.heap.size + 1) 3 lv list.length (condCells list) ∧ Below w.heap.size w wr ∧ list.length ≤ p.size + 1
set_option maxRecDepth 1000000 in
theorem fr_of {s p : ByteArray} {b : Nat} {a : Act} (v6 v7 v8 v9 v10 : Value) (hs : a.tmps.size = 285) (hd : a.defers = []) (h0 : a.tmps.getD 0 undef = .string s) (h4 : a.tmps.getD 4 undef = .pointer (some ⟨b, 0, none⟩)) (h5 : a.tmps.getD 5 undef = .string p)
    (h6 : a.tmps.getD 6 undef = v6) (h7 : a.tmps.getD 7 undef = v7) (h8 : a.tmps.getD 8 undef = v8) (h9 : a.tmps.getD 9 undef = v9) (h10 : a.tmps.getD 10 undef = v10) : a = Fr s p b v6 v7 v8 v9 v10 (fun k => a.tmps.getD k undef) := by
  obtain ⟨x, d⟩ := a
  simp only at *
  subst hd
  unfold Fr
  rw [Act.mk.injEq]
  refine ⟨?_, rfl⟩
  conv => lhs; rw [arr285 x hs, lit285]
  rw [h0, h4, h5, h6, h7, h8, h9, h10]

set_option maxRecDepth 1000000 in
set_option maxHeartbeats 4000000 in
theorem round_done (s p : ByteArray) (w wr : World) (v q e : Bool) (R : Option PSt) (U : Nat → Value) (K : Act → World → Prop) (h0 : 0 < s.size) (hs : s.size ≤ 4294967296) (hps : p.size ≤ s.size)
    (v6 v7 v8 v9 : Value) (i : Nat) (hi : i = p.size + 1) (hK : ∀ U', K (Fr s p w.heap.size v6 v7 v8 v9 (.int .i64 i) U') wr) :
    Code.wp Try.prog body3 (Exit.then (fun a' w'' => WI s p w v q e R a' w'' ∧ Wmu p a' w'' < p.size + 1 - i) (Exit.inBlock 4 (Exit.then K (bodyPost Try.prog Try.f23 (NewPost s w))))) (Fr s p w.heap.size v6 v7 v8 v9 (.int .i64 i) U) wr := by
  conv => arg 2; whnf
  simp only [Fr]
  have hlt : p.size < i := by omega
  have hib : i ≤ 4294967297 := by omega
  clear hi
  have HK := Lib.hid hK
  clear hK
  go_wp2
  exact Eq.mpr (congrArg (fun x => K x wr) (fr_of (s := s) (p := p) (b := w.heap.size) v6 v7 v8 v9 (.int .i64 i) rfl rfl rfl rfl rfl rfl rfl rfl rfl rfl)) (HK.out _)

set_option maxRecDepth 1000000 in
set_option maxHeartbeats 4000000 in
theorem round_all (s p : ByteArray) (w : World) (v q e : Bool) (R : Option PSt) (K : Act → World → Prop) (h0 : 0 < s.size) (hs : s.size ≤ 4294967296) (hp0 : 0 < p.size) (hps : p.size ≤ s.size) (HN : Hid (newL (L s) = R.map fun st => ⟨v, q, e, st.list⟩))
    (hK : ∀ lv list wr v6 v7 v8 v9 i U', Done s p w v q e wr lv list → K (Fr s p w.heap.size v6 v7 v8 v9 (.int .i64 i) U') wr) (ac : Act) (wr : World) (hI : WI s p w v q e R ac wr) :
    Code.wp Try.prog body3 (Exit.then (fun a' w'' => WI s p w v q e R a' w'' ∧ Wmu p a' w'' < Wmu p ac wr) (Exit.inBlock 4 (Exit.then K (bodyPost Try.prog Try.f23 (NewPost s w))))) ac wr := by
  obtain ⟨U, v6, v7, v8, v9, v10, hrel, rfl⟩ := hI
  obtain ⟨i, a, res, bits, seg, wid, list, lv, rfl, hi, rfl, rfl, rfl, hai, rfl, hwid, HSL, HSH, HRA, HM, HROW, HB, HLL⟩ := hrel
  have hmu : Wmu p (Fr s p w.heap.size (.bool res) (.int .u64 bits) (.int .i64 a) (.int .i64 (wid : Int)) (.int .i64 i) U) wr = p.size + 1 - i := by simp [Wmu, Fr, intOf]
  rw [hmu]
  by_cases hle : i ≤ p.size
  · have HST := Lib.hid (runAt_step (L p) i ⟨res, bits, seg, wid, decide (0 < i), list⟩ (by rw [L_len]; exact hle))
    by_cases hlt : i < p.size
    · obtain ⟨c, hc1, hc2, hc3⟩ := byte_at p i hlt
      rw [hc3] at HST
      have HC := Lib.hid hc1
      clear hc1 hc3
      by_cases hdig : isDig c = true
      · rcases hwid with rfl | rfl
        · exact round_dig1 s p w wr v q e R U K h0 hs hps i hlt a res bits seg list lv hai HN HSL HSH HRA HM HROW HB HLL c hc2 HC HST hdig
        · exact round_dig4 s p w wr v q e R U K h0 hs hps i hlt a res bits seg list lv hai HN HSL HSH HRA HM HROW HB HLL c hc2 HC HST hdig
      by_cases hbin : (c == 48 || c == 49) = true
      · rcases hwid with rfl | rfl
        · exact round_bin1 s p w wr v q e R U K h0 hs hps i hlt a res bits seg list lv hai HN HSL HSH HRA HM HROW HB HLL c hc2 HC HST hbin
        · exact round_bin4 s p w wr v q e R U K h0 hs hps i hlt a res bits seg list lv hai HN HSL HSH HRA HM HROW HB HLL c hc2 HC HST hbin
      by_cases hhex : isHexL c = true
      · rcases hwid with rfl | rfl
        · exact round_hex1 s p w wr v q e R U K h0 hs hps i hlt a res bits seg list lv hai HN HSL HSH HRA HM HROW HB HLL c hc2 HC HST hhex
        · exact round_hex4 s p w wr v q e R U K h0 hs hps i hlt a res bits seg list lv hai HN HSL HSH HRA HM HROW HB HLL c hc2 HC HST hhex
      by_cases hx : c = 120
      · subst hx
        by_cases hst : a = i ∧ wid = 1
        · obtain ⟨hia, rfl⟩ := hst
          exact round_x s p w wr v q e R U K h0 hs hps i hlt a res bits seg list lv hai HN HSL HSH HRA HM HROW HB HLL hc2 HC HST hia
        · exact round_xlate s p w wr v q e R U K h0 hs hps i hlt a res bits seg wid hwid list lv hai HN HSL HSH HRA HM HROW HB HLL hc2 HC HST hst
      by_cases hy : c = 121
      · subst hy
        exact round_y s p w wr v q e R U K h0 hs hps i hlt a res bits seg wid hwid list lv hai HN HSL HSH HRA HM HROW HB HLL hc2 HC HST
      by_cases hpl : c = 43
      · subst hpl
        cases res with
        | false => exact round_plus_late s p w wr v q e R U K h0 hs hps i hlt a bits seg wid hwid list lv hai HN HSL HSH HRA HM HROW HB HLL hc2 HC HST
        | true =>
          by_cases hpos : 0 < i
          · by_cases hbad : 64 < seg.length * wid ∨ seg = []
            · exact round_plus_bad s p w wr v q e R U K h0 hs hps i hlt a bits seg wid hwid list lv hai HN HSL HSH HRA HM HROW HB HLL hc2 HC HST hpos hbad
            · cases hdy : (bt p a == 121) with
              | true => exact round_plus_y s p w wr v q e R U K h0 hs hps i hlt a bits seg wid hwid list lv hai HN HSL HSH HRA HM HROW HB HLL hc2 HC HST hpos hbad hdy
              | false => exact round_plus_n s p w wr v q e R U K h0 hs hps i hlt a bits seg wid hwid list lv hai HN HSL HSH HRA HM HROW HB HLL hc2 HC HST hpos hbad hdy
          · exact round_plus_first s p w wr v q e R U K h0 hs hps i hlt a bits seg wid hwid list lv hai HN HSL HSH HRA HM HROW HB HLL hc2 HC HST (by omega)
      by_cases hmi : c = 45
      · subst hmi
        by_cases hpos : 0 < i
        · by_cases hbad : 64 < seg.length * wid ∨ seg = []
          · exact round_minus_bad s p w wr v q e R U K h0 hs hps i hlt a res bits seg wid hwid list lv hai HN HSL HSH HRA HM HROW HB HLL hc2 HC HST hpos hbad
          · cases hdy : (bt p a == 121) with
            | true => exact round_minus_y s p w wr v q e R U K h0 hs hps i hlt a res bits seg wid hwid list lv hai HN HSL HSH HRA HM HROW HB HLL hc2 HC HST hpos hbad hdy
            | false => exact round_minus_n s p w wr v q e R U K h0 hs hps i hlt a res bits seg wid hwid list lv hai HN HSL HSH HRA HM HROW HB HLL hc2 HC HST hpos hbad hdy
        · exact round_minus_first s p w wr v q e R U K h0 hs hps i hlt a res bits seg wid hwid list lv hai HN HSL HSH HRA HM HROW HB HLL hc2 HC HST (by omega)
      exact round_other s p w wr v q e R U K h0 hs hps i hlt a res bits seg wid hwid list lv hai HN HSL HSH HRA HM HROW HB HLL c hc2 HC HST hdig hbin hhex hx hy hpl hmi
    · obtain rfl : i = p.size := by omega
      rw [show (L p).getD p.size 45 = 45 by rw [List.getD, List.getElem?_eq_none (by rw [L_len]; exact Nat.le_refl _)]; rfl] at HST
      by_cases hbad : 64 < seg.length * wid ∨ seg = []
      · exact round_end_bad s p w wr v q e R U K h0 hs hps a res bits seg wid hwid list lv hai HN HSL HSH HRA HM HROW HB HLL HST hp0 hbad
      · cases hdy : (bt p a == 121) with
        | true => exact round_end_y s p w wr v q e R U K h0 hs hps a res bits seg wid hwid list lv hai HN HSL HSH HRA HM HROW HB HLL HST hp0 hbad hdy
        | false => exact round_end_n s p w wr v q e R U K h0 hs hps a res bits seg wid hwid list lv hai HN HSL HSH HRA HM HROW HB HLL HST hp0 hbad hdy
  · have hi' : i = p.size + 1 := by omega
    refine round_done s p w wr v q e R U K h0 hs hps _ _ _ _ i hi' fun U' => hK lv list wr _ _ _ _ i U' ⟨?_, HM.out, HROW.out, HB.out, by have := HLL.out; omega⟩
    rw [HN.out, ← HRA.out]; unfold runAt; rw [if_neg (by rw [L_len]; omega)]; rfl

theorem loop3 (s p : ByteArray) (w wr : World) (v q e : Bool) (R : Option PSt) (K : Act → World → Prop) (U : Nat → Value) (v6 v7 v8 v9 v10 : Value) (h0 : 0 < s.size) (hs : s.size ≤ 4294967296) (hp0 : 0 < p.size) (hps : p.size ≤ s.size) (HN : Hid (newL (L s) = R.map fun st => ⟨v, q, e, st.list⟩))
    (hrel : NRel p w v q e R v6 v7 v8 v9 v10 wr)
    (hK : ∀ lv list wr v6 v7 v8 v9 i U', Done s p w v q e wr lv list → K (Fr s p w.heap.size v6 v7 v8 v9 (.int .i64 i) U') wr) :
    Code.wp Try.prog (Code.loop body3) (Exit.inBlock 4 (Exit.then K (bodyPost Try.prog Try.f23 (NewPost s w)))) (Fr s p w.heap.size v6 v7 v8 v9 v10 U) wr :=
  wp_loop (WI s p w v q e R) (Wmu p) ⟨U, _, _, _, _, _, hrel, rfl⟩ fun a w'' hI => round_all s p w v q e R K h0 hs hp0 hps HN hK a w'' hI
theorem loop3' (s p : ByteArray) (w wr : World) (v q e : Bool) (R : Option PSt) (K : Act → World → Prop) (ac : Act) (v6 v7 v8 v9 v10 : Value) (h0 : 0 < s.size) (hs : s.size ≤ 4294967296) (hp0 : 0 < p.size) (hps : p.size ≤ s.size) (HN : Hid (newL (L s) = R.map fun st => ⟨v, q, e, st.list⟩))
    (asz : ac.tmps.size = 285) (ad : ac.defers = []) (a0 : ac.tmps.getD 0 undef = .string s) (a4 : ac.tmps.getD 4 undef = .pointer (some ⟨w.heap.size, 0, none⟩)) (a5 : ac.tmps.getD 5 undef = .string p)
    (a6 : ac.tmps.getD 6 undef = v6) (a7 : ac.tmps.getD 7 undef = v7) (a8 : ac.tmps.getD 8 undef = v8) (a9 : ac.tmps.getD 9 undef = v9) (a10 : ac.tmps.getD 10 undef = v10)
    (hrel : NRel p w v q e R v6 v7 v8 v9 v10 wr)
    (hK : ∀ lv list wr v6 v7 v8 v9 i U', Done s p w v q e wr lv list → K (Fr s p w.heap.size v6 v7 v8 v9 (.int .i64 i) U') wr) :
    Code.wp Try.prog (Code.loop body3) (Exit.inBlock 4 (Exit.then K (bodyPost Try.prog Try.f23 (NewPost s w)))) ac wr := by
  rw [fr_of v6 v7 v8 v9 v10 asz ad a0 a4 a5 a6 a7 a8 a9 a10]
  exact loop3 s p w wr v q e R K _ v6 v7 v8 v9 v10 h0 hs hp0 hps HN hrel hK
end Go.Proofs.Ytnjdckhaecdldaa
