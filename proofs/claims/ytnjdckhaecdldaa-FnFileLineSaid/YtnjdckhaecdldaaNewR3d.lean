/-
  All other bytes of a round of bisect.New's main loop. For every text of at most 4294967296 bytes.
-/
import Derived.Test.YtnjdckhaecdldaaNewLoop
import Derived.Outline
import Derived.Deep.DeepCutAuto
import Derived.Deep.CutBlock
set_option linter.unusedVariables false
namespace Go.Proofs.Ytnjdckhaecdldaa
open Go.RowKit Go.PlainAid

set_option maxRecDepth 1000000 in
set_option maxHeartbeats 4000000 in
theorem round_other (s p : ByteArray) (w wr : World) (v q e : Bool) (R : Option PSt) (U : Nat → Value) (K : Act → World → Prop) (h0 : 0 < s.size) (hs : s.size ≤ 4294967296) (hps : p.size ≤ s.size)
    (i : Nat) (hlt : i < p.size) (a : Nat) (res : Bool) (bits : Int) (seg : Bs) (wid : Nat) (hwid : wid = 1 ∨ wid = 4) (list : List Cond) (lv : Value) (hai : a ≤ i)
    (HN : Hid (newL (L s) = R.map fun st => ⟨v, q, e, st.list⟩)) (HSL : Hid (seg.length = i - a)) (HSH : Hid (a < i → seg.head? = (L p)[a]?)) (HRA : Hid (runAt (L p) i ⟨res, bits, seg, wid, decide (0 < i), list⟩ = R)) (HM : Hid (MatAt wr w.heap.size v q e lv)) (HROW : Hid (Row wr (w.heap.size + 1) 3 lv list.length (condCells list))) (HB : Hid (Below w.heap.size w wr)) (HLL : Hid (list.length ≤ i))
    (c : UInt8) (hc2 : bt p i = ((c : UInt8).toNat : Int)) (HC : Hid ((L p)[i]? = some c)) (HST : Hid (runAt (L p) i ⟨res, bits, seg, wid, decide (0 < i), list⟩ = (stepP c (L p)[i + 1]? ⟨res, bits, seg, wid, decide (0 < i), list⟩).bind (runAt (L p) (i + 1))))
    (hdig : ¬ isDig c = true) (hbin : ¬ (c == 48 || c == 49) = true) (hhex : ¬ isHexL c = true) (hx : ¬ c = 120) (hy : ¬ c = 121) (hpl : ¬ c = 43) (hmi : ¬ c = 45) :
    Code.wp Try.prog body3 (Exit.then (fun a' w'' => WI s p w v q e R a' w'' ∧ Wmu p a' w'' < p.size + 1 - i) (Exit.inBlock 4 (Exit.then K (bodyPost Try.prog Try.f23 (NewPost s w))))) (Fr s p w.heap.size (.bool res) (.int .u64 bits) (.int .i64 a) (.int .i64 (wid : Nat)) (.int .i64 i) U) wr := by
  conv => arg 2; whnf
  simp only [Fr]
  have hbp := get_bt p
  have HSTEP : Hid (stepP c (L p)[i + 1]? ⟨res, bits, seg, wid, decide (0 < i), list⟩ = none) := step_other hx (by simpa using hdig) (by simpa using hbin) (by simpa using hhex) hy (fun h => h.elim hpl hmi)
  have HALL := Lib.hid (other_all hc2 hx hdig hbin hhex hy hpl hmi)
  clear hhex hbin hdig hx hy hpl hmi hc2
  go_upto_region 35 with (fail)
  go_cut [122] (fun bv wc => ∃ b : Bool, bv = .bool b ∧ wr = wc ∧ Hid (b = (decide (a = i) && decide (wid = 1) && (bt p i == 120))))
  case first =>
    by_cases hia : a = i
    · have hia1 : ((i : Int) == (a : Int)) = true := by simp <;> omega
      rcases hwid with rfl | rfl
      · go_wp2
        go_meet
        case rel => exact ⟨_, rfl, rfl, by show _ = _; first | (simp [hia]; done) | (rw [HALL.out.2.2]; simp [hia]; done)⟩
      · go_wp2
        go_meet
        case rel => exact ⟨_, rfl, rfl, by show _ = _; simp⟩
    · have hia1 : ((i : Int) == (a : Int)) = false := by simp <;> omega
      go_wp2
      go_meet
      case rel => exact ⟨_, rfl, rfl, by show _ = _; first | (simp [hia]; done) | (rw [HALL.out.2.2]; simp [hia]; done)⟩
  case rest =>
  obtain ⟨b0, rfl, rfl, HBV⟩ := hcut
  obtain ⟨b50, b51, b52, b53, b54, b55, b56, b57, b48, b49, b97, b98, b99, b100, b101, b102, b65, b66, b67, b68, b69, b70, b121, b43, b45, b120⟩ := HALL.out
  obtain rfl : b0 = false := by rw [HBV.out, b120]; simp
  clear HALL
  go_wp2
  go_ret2
  exact err_post h0 (by rw [HN.out, ← HRA.out, HST.out, HSTEP.out]; rfl) (HB.out.alloc HB.out.size _) ⟨_, _, rfl⟩

end Go.Proofs.Ytnjdckhaecdldaa
