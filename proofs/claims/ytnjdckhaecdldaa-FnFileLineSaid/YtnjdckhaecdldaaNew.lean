/-
  The contract of bisect.New. For every text of at most 4294967296 bytes.
-/
import Derived.Test.YtnjdckhaecdldaaNewRound
import Derived.Lib.Hide
import Derived.Outline
import Derived.Deep.DeepCutAuto
import Derived.Deep.CutBlock
namespace Go.Proofs.Ytnjdckhaecdldaa
open Go.RowKit Go.PlainAid

theorem mat_new_any (w : World) (t : TypeId) (v q e : Bool) (sv : Value) : MatAt (w.alloc (.cells #[.bool v, .bool q, .bool e, sv] t)) w.heap.size v q e sv :=
  ⟨fun k _ => World.frozen?_alloc_new w _ _ k, World.cell?_alloc_new w _ _ 0, World.cell?_alloc_new w _ _ 1, World.cell?_alloc_new w _ _ 2, World.cell?_alloc_new w _ _ 3⟩
theorem below_new (w : World) (o : Obj) : Below w.heap.size w (w.alloc o) := (Below.refl w.heap.size w).alloc (Nat.le_refl _) o

set_option maxRecDepth 1000000 in
set_option maxHeartbeats 40000000 in
theorem new_any (s : ByteArray) (w : World) (hs : s.size ≤ 4294967296) : Calls Try.prog 23 #[.string s] w (NewPost s w) := by
  have hb := get_bt s
  by_cases h0 : 0 < s.size
  · have he := isEmpty_no s h0
    go_enter Try.func23, Try.ntmps23
    go_upto_if 25 with (fail)
    go_cut [5] (fun pv wc => ∃ p q, pv = .string p ∧ 0 < p.size ∧ p.size ≤ s.size ∧ Hid (MatAt wc w.heap.size false q false (.slice none 0 0)) ∧ Hid (Below w.heap.size w wc) ∧ Hid (newL (L s) = (dropV (L p) false q).bind fun x => prefN x.1 x.2.1 x.2.2))
    case first =>
      cases hq : (bt s 0 == 113) with
      | true =>
        have HQ := Lib.hid (newL_q h0 hq)
        have hxs : (s.extract 1 s.size).size = s.size - 1 := by rw [ByteArray.size_extract]; omega
        by_cases h1 : 1 < s.size
        · have hxe := isEmpty_no (s.extract 1 s.size) (by omega)
          go_wp2
          go_meet
          case rel => exact ⟨s.extract 1 s.size, true, rfl, by omega, by omega, mat_new_any _ _ _ _ _ _, below_new _ _, by show _ = _; rw [HQ.out, L_isEmpty, if_neg (by simp; omega)]; rfl⟩
        · have hxe := isEmpty_yes (s.extract 1 s.size) (by omega)
          go_wp2
          go_ret2
          exact err_post h0 (by rw [HQ.out, L_isEmpty, if_pos (by simp; omega)]) ((below_new _ _).alloc (by simp) _) ⟨_, _, rfl⟩
      | false =>
        have HQ := Lib.hid (newL_noq h0 hq)
        go_wp2
        go_meet
        case rel => exact ⟨s, false, rfl, h0, Nat.le_refl _, mat_new_any _ _ _ _ _ _, below_new _ _, HQ.out⟩
    case rest =>
    obtain ⟨p, q, rfl, hp0, hps, HM, HB, HN⟩ := hcut
    go_upto_block 0 with (fail)
    go_cut [5] (fun pv wc => ∃ p v q, pv = .string p ∧ 0 < p.size ∧ p.size ≤ s.size ∧ Hid (MatAt wc w.heap.size v q false (.slice none 0 0)) ∧ Hid (Below w.heap.size w wc) ∧ Hid (newL (L s) = prefN (L p) v q))
    case first =>
      go_wp2
      go_loopw [5] (fun pv wr => ∃ p v q, pv = .string p ∧ 0 < p.size ∧ p.size ≤ s.size ∧ Hid (MatAt wr w.heap.size v q false (.slice none 0 0)) ∧ Hid (Below w.heap.size w wr) ∧ Hid (newL (L s) = (dropV (L p) v q).bind fun x => prefN x.1 x.2.1 x.2.2)) (fun pv _ => strLen pv)
      case atStart => exact ⟨p, false, q, rfl, hp0, hps, HM.out, HB.out, HN.out⟩
      case round =>
        clear HM HB HN hp0 hps
        obtain ⟨p, v, q, rfl, hp0, hps, HM, HB, HN⟩ := hrel
        have hbp := get_bt p
        cases hv : (bt p 0 == 118) with
        | true =>
          have HV := Lib.hid (dropV_go hp0 hv v q)
          have hxs : (p.extract 1 p.size).size = p.size - 1 := by rw [ByteArray.size_extract]; omega
          obtain ⟨mf, m0, m1, m2, m3⟩ := HM.out
          have f0 := mf 0 (by omega)
          have f1 := mf 1 (by omega)
          clear mf
          by_cases h1 : 1 < p.size
          · have hxe := isEmpty_no (p.extract 1 p.size) (by omega)
            go_wp2
            go_roundw
            case rel => exact ⟨p.extract 1 p.size, true, false, rfl, by omega, by omega, (HM.out.set0 true).set1 false, (HB.out.setCell (p := ⟨w.heap.size, 0, none⟩) (Nat.le_refl _) _).setCell (p := ⟨w.heap.size, 1, none⟩) (Nat.le_refl _) _, by show _ = _; rw [HN.out, HV.out, L_isEmpty, if_neg (by simp; omega)]⟩
            case measure => simp [strLen]; omega
          · have hxe := isEmpty_yes (p.extract 1 p.size) (by omega)
            go_wp2
            go_ret2
            exact err_post h0 (by rw [HN.out, HV.out, L_isEmpty, if_pos (by simp; omega)]; rfl) (((HB.out.setCell (p := ⟨w.heap.size, 0, none⟩) (Nat.le_refl _) _).setCell (p := ⟨w.heap.size, 1, none⟩) (Nat.le_refl _) _).alloc (by simp; exact HB.out.size) _) ⟨_, _, rfl⟩
        | false =>
          have HV := Lib.hid (dropV_stop hp0 hv v q)
          go_wp2
          go_meet
          case rel => exact ⟨p, v, q, rfl, hp0, hps, HM.out, HB.out, by show _ = _; rw [HN.out, HV.out]; rfl⟩
    case rest =>
    clear HM HB HN hp0 hps
    obtain ⟨p, v, q, rfl, hp0, hps, HM, HB, HN⟩ := hcut
    obtain ⟨mf, m0, m1, m2, m3⟩ := HM.out
    have f2 := mf 2 (by omega)
    clear mf
    go_upto_block 2 with (fail)
    clear f2 m0 m1 m2 m3
    go_cut [5] (fun pv wc => ∃ p e, pv = .string p ∧ 0 < p.size ∧ p.size ≤ s.size ∧ Hid (MatAt wc w.heap.size v q e (.slice none 0 0)) ∧ Hid (Below w.heap.size w wc) ∧ Hid (newL (L s) = mainL (L p) v q e))
    case first =>
      have HM1 := Lib.hid (HM.out.set2 true)
      have HB1 := Lib.hid (HB.out.setCell (p := ⟨w.heap.size, 2, none⟩) (Nat.le_refl _) (.bool true))
      have HN1 : Hid (newL (L s) = (dropN (L p) true).bind fun x => mainL x.1 v q x.2) := HN.out
      go_wp2
      go_loopw [5] (fun pv wr => ∃ p e, pv = .string p ∧ 0 < p.size ∧ p.size ≤ s.size ∧ Hid (MatAt wr w.heap.size v q e (.slice none 0 0)) ∧ Hid (Below w.heap.size w wr) ∧ Hid (newL (L s) = (dropN (L p) e).bind fun x => mainL x.1 v q x.2)) (fun pv _ => strLen pv)
      case atStart => exact ⟨p, true, rfl, hp0, hps, HM1.out, HB1.out, HN1.out⟩
      case round =>
        clear HM HB HN hp0 hps HM1 HB1 HN1
        obtain ⟨p, e, rfl, hp0, hps, HM, HB, HN⟩ := hrel
        have hbp := get_bt p
        cases hv : (bt p 0 == 33) with
        | true =>
          have HV := Lib.hid (dropN_go hp0 hv e)
          have hxs : (p.extract 1 p.size).size = p.size - 1 := by rw [ByteArray.size_extract]; omega
          obtain ⟨mf, m0, m1, m2, m3⟩ := HM.out
          have f2 := mf 2 (by omega)
          clear mf
          by_cases h1 : 1 < p.size
          · have hxe := isEmpty_no (p.extract 1 p.size) (by omega)
            go_wp2
            go_roundw
            case rel => exact ⟨p.extract 1 p.size, !e, rfl, by omega, by omega, HM.out.set2 _, HB.out.setCell (p := ⟨w.heap.size, 2, none⟩) (Nat.le_refl _) _, by show _ = _; rw [HN.out, HV.out, L_isEmpty, if_neg (by simp; omega)]⟩
            case measure => simp [strLen]; omega
          · have hxe := isEmpty_yes (p.extract 1 p.size) (by omega)
            go_wp2
            go_ret2
            exact err_post h0 (by rw [HN.out, HV.out, L_isEmpty, if_pos (by simp; omega)]; rfl) ((HB.out.setCell (p := ⟨w.heap.size, 2, none⟩) (Nat.le_refl _) _).alloc (by simp; exact HB.out.size) _) ⟨_, _, rfl⟩
        | false =>
          have HV := Lib.hid (dropN_stop hp0 hv e)
          go_wp2
          go_meet
          case rel => exact ⟨p, e, rfl, hp0, hps, HM.out, HB.out, by show _ = _; rw [HN.out, HV.out]; rfl⟩
    case rest =>
    clear HM HB HN hp0 hps
    obtain ⟨p, e, rfl, hp0, hps, HM, HB, HN⟩ := hcut
    go_upto_if 90 with (fail)
    go_cut [5] (fun pv wc => ∃ p e, pv = .string p ∧ 0 < p.size ∧ p.size ≤ s.size ∧ Hid (MatAt wc w.heap.size v q e (.slice none 0 0)) ∧ Hid (Below w.heap.size w wc) ∧ Hid (newL (L s) = (runP (L p) st0).map fun st => ⟨v, q, e, st.list⟩))
    case first =>
      cases hn : (p.toList == (⟨#[110]⟩ : ByteArray).toList) with
      | true =>
        have HNN : Hid (newL (L s) = (runP (L ⟨#[121]⟩) st0).map fun st => ⟨v, q, !e, st.list⟩) := by
          show _ = _
          rw [HN.out, beq_str.1 hn]; rfl
        rw [show (⟨#[110]⟩ : ByteArray).toList = [110] by rw [toList_L]; rfl] at hn
        rw [hn]
        obtain ⟨mf, m0, m1, m2, m3⟩ := HM.out
        have f2 := mf 2 (by omega)
        clear mf
        go_wp2
        go_meet
        case rel => exact ⟨⟨#[121]⟩, !e, rfl, by decide, (show 1 ≤ s.size by omega), HM.out.set2 _, HB.out.setCell (p := ⟨w.heap.size, 2, none⟩) (Nat.le_refl _) _, HNN.out⟩
      | false =>
        have HNN : Hid (newL (L s) = (runP (L p) st0).map fun st => ⟨v, q, e, st.list⟩) := by
          show _ = _
          rw [HN.out, mainL, if_neg]
          intro h
          have : p = ⟨#[110]⟩ := L_inj h
          rw [beq_str.2 this] at hn; cases hn
        rw [show (⟨#[110]⟩ : ByteArray).toList = [110] by rw [toList_L]; rfl] at hn
        rw [hn]
        go_wp2
        go_meet
        case rel => exact ⟨p, e, rfl, hp0, hps, HM.out, HB.out, HNN.out⟩
    case rest =>
    clear HM HB HN hp0 hps
    obtain ⟨p, e, rfl, hp0, hps, HM, HB, HN⟩ := hcut
    have hbp := get_bt p
    generalize hR : runP (L p) st0 = R at *
    have HR0 : Hid (runAt (L p) 0 ⟨true, 0, [], 1, decide (0 < 0), []⟩ = R) := by show _ = _; rw [← hR]; unfold runAt; rw [if_pos (Nat.zero_le _)]; rfl
    clear hR
    go_wp2
    refine loop3' s p w _ v q e R _ _ (.bool true) (.int .u64 0) (.int .i64 0) (.int .i64 1) (.int .i64 0) h0 hs hp0 hps HN rfl rfl rfl rfl rfl rfl rfl rfl rfl rfl
      ⟨0, 0, true, 0, [], 1, [], _, rfl, Nat.zero_le _, rfl, rfl, rfl, Nat.le_refl _, rfl, .inl rfl, rfl, fun h => absurd h (by omega), HR0.out, HM.out, Row.nil _ _ _, HB.out, Nat.zero_le _⟩ ?_
    intro lv list wr v6 v7 v8 v9 i U' hd
    have HD := Lib.hid hd
    clear hd HN HR0 HM HB
    simp only [Fr]
    go_wp2
    go_ret2
    obtain ⟨d1, d2, d3, d4, d5⟩ := HD.out
    exact ⟨d4, .inr (.inr ⟨h0, ⟨v, q, e, list⟩, lv, w.heap.size, d1, rfl, Nat.le_refl _, d2, d3, by show list.length ≤ _; omega⟩)⟩
  · have he := isEmpty_yes s (by omega)
    go_enter Try.func23, Try.ntmps23
    go_wp2
    go_ret2
    exact ⟨Below.refl _ _, .inl ⟨by omega, rfl⟩⟩
end Go.Proofs.Ytnjdckhaecdldaa
