/-
  The contracts of impl.queue and edit.NewBuffer. For every list of edits that lie within the text.
-/
import Derived.Test.YtboiigeomgdkjaaBuf
import Derived.Deep.QuietTactic
import Derived.BigQuiet
set_option linter.unusedVariables false
set_option maxHeartbeats 1000000
set_option maxRecDepth 100000
namespace Go.Proofs.Ytboiigeomgdkjaa
open Go.RowKit Go.PlainAid Go.Lib

theorem Arg.step {w : World} {B : Nat} {a : Option Addr} {ss : List St} (h : Arg w B 3 a ss.length (stepCells ss)) (k : Nat) (hk : k < ss.length) :
    ∃ b o, a = some ⟨b, o, none⟩ ∧ b < B ∧ w.cell? ⟨b, o + k * 3, none⟩ = some (.int .i64 (ss[k]'hk).1) ∧ w.cell? ⟨b, o + k * 3 + 1, none⟩ = some (.int .i64 (ss[k]'hk).2.1) ∧ w.cell? ⟨b, o + k * 3 + 2, none⟩ = some (.string (ss[k]'hk).2.2) := by
  obtain ⟨b, o, e, hb, hc⟩ := h.2 (by omega)
  refine ⟨b, o, e, hb, ?_, ?_, ?_⟩
  · rw [hc (k * 3) (by omega), show k * 3 = k * 3 + 0 by omega, stepCells_at ss k 0 hk (by omega)]; rfl
  · rw [Nat.add_assoc, hc (k * 3 + 1) (by omega), stepCells_at ss k 1 hk (by omega)]; rfl
  · rw [Nat.add_assoc, hc (k * 3 + 2) (by omega), stepCells_at ss k 2 hk (by omega)]; rfl
def QueueRel (w : World) (B p : Nat) (ov : Value) (d : ByteArray) (l ss : List St) (iv : Value) (wr : World) : Prop :=
  ∃ k : Nat, iv = .int .i64 k ∧ k ≤ ss.length ∧ BufAt wr B p ov d (l ++ ss.take k) ∧ Below B w wr ∧ Frm p w wr
theorem QueueRel.next {w w' : World} {B p : Nat} {ov : Value} {d : ByteArray} {l ss : List St} {k : Nat} (hk : k < ss.length) {z : St} (hz : z = ss[k]) (h : BufAt w' B p ov d (l ++ ss.take k ++ [z])) (hb : Below B w w' ∧ Frm p w w') : QueueRel w B p ov d l ss (.int .i64 ((k : Int) + 1)) w' :=
  ⟨k + 1, by go_num, by omega, by rw [List.take_succ_eq_append_getElem hk, ← hz, ← List.append_assoc]; exact h, hb⟩
theorem queue_any (w : World) (B p : Nat) (ov : Value) (d : ByteArray) (l ss : List St) (a : Option Addr) (c : Nat) (hb : BufAt w B p ov d l) (ha : Arg w B 3 a ss.length (stepCells ss)) (hl : l.length + ss.length ≤ 4294967295) (hd : d.size ≤ 4294967296)
    (hin : ∀ z ∈ ss, inN d.size z) :
    Calls Try.prog 27 #[.pointer (some ⟨p, 0, none⟩), .slice a ss.length c] w (BufPost w B p ov d (l ++ ss)) := by
  have HB := Lib.hid hb
  have HA := Lib.hid ha
  have HI := Lib.hid hin
  clear hb ha hin
  go_enter Try.func27, Try.ntmps27
  go_wp2
  go_loopw [8] (QueueRel w B p ov d l ss) (fun iv _ => ss.length - (intOf iv).toNat)
  case atStart => exact ⟨0, rfl, Nat.zero_le _, by simpa using HB.out, Below.refl _ _, Frm.refl _ _⟩
  case round =>
    clear HB
    obtain ⟨k, rfl, hk, hbu, hbel, hfr⟩ := hrel
    have HFR := Lib.hid hfr
    clear hfr
    have HBU := Lib.hid hbu
    have HBEL := Lib.hid hbel
    clear hbu hbel
    by_cases hlt : k < ss.length
    · obtain ⟨b, o, rfl, hbB, c0, c1, c2⟩ := (HA.out.below HBEL.out).step k hlt
      have hz := HI.out ss[k] (List.getElem_mem _)
      unfold inN at hz
      have hlen : (l ++ ss.take k).length ≤ 4294967295 := by rw [List.length_append, List.length_take]; omega
      obtain ⟨z, hzz⟩ : ∃ z, z = ss[k] := ⟨_, rfl⟩
      rw [← hzz] at hz c0 c1 c2
      have HZ := Lib.hid hzz
      have HLEN := Lib.hid hlen
      obtain ⟨x, y, t⟩ := z
      dsimp only at hz c0 c1 c2
      obtain ⟨z1, z2, z3⟩ := hz
      clear hzz hlen
      have HW := Lib.hid (HBU.out.keep (w' := wr.alloc (.cells #[.int .i64 x, .int .i64 y, .string t] 33)) (by simp) (fun q hq => Below.heap_alloc wr _ q hq))
      have hpl : p < wr.heap.size := by
        obtain ⟨v, g1, g2, _⟩ := HBU.out
        exact block_lt_of_cell (cell_of_row wr p 0 _ _ _ g1 : wr.cell? ⟨p, 0, none⟩ = some ov)
      have hBs : B ≤ wr.heap.size := by
        obtain ⟨v, g1, g2, _⟩ := HBU.out
        omega
      by_cases he : x = y
      · subst he
        go_wp2_with fail
        refine (insert_any _ B p ov d _ HW.out HLEN.out hd x t z1 z3).mono ?_
        rintro e w' ⟨rfl, hbu2, hbel2, hfr2⟩
        have HB2 := Lib.hid hbu2
        have HE2 := Lib.hid (And.intro ((HBEL.out.alloc hBs _).trans hbel2) ((HFR.out.trans (Frm.alloc p wr hpl _)).trans hfr2))
        clear hbu2 hbel2 hfr2
        go_wp2_with fail
        go_roundw
        case rel => exact QueueRel.next hlt HZ.out HB2.out HE2.out
        case measure => simp [intOf]; omega
      · have he' : (x == y) = false := by simpa using he
        have HE := Lib.hid he
        clear he
        by_cases ht : t.size = 0
        · obtain rfl : t = ⟨#[]⟩ := by apply ByteArray.ext; exact Array.eq_empty_of_size_eq_zero ht
          clear ht
          go_wp2_with fail
          refine (delete_any _ B p ov d _ HW.out HLEN.out hd x y z1 z2 z3).mono ?_
          rintro e w' ⟨rfl, hbu2, hbel2, hfr2⟩
          have HB2 := Lib.hid hbu2
          have HE2 := Lib.hid (And.intro ((HBEL.out.alloc hBs _).trans hbel2) ((HFR.out.trans (Frm.alloc p wr hpl _)).trans hfr2))
          clear hbu2 hbel2 hfr2
          go_wp2_with fail
          go_roundw
          case rel => exact QueueRel.next hlt HZ.out HB2.out HE2.out
          case measure => simp [intOf]; omega
        · have ht1 : t.toList.isEmpty = false := isEmpty_no t (by omega)
          have HT := Lib.hid ht
          clear ht
          go_wp2_with fail
          refine (replace_any _ B p ov d _ HW.out HLEN.out hd x y t z1 z2 z3).mono ?_
          rintro e w' ⟨rfl, hbu2, hbel2, hfr2⟩
          have HB2 := Lib.hid hbu2
          have HE2 := Lib.hid (And.intro ((HBEL.out.alloc hBs _).trans hbel2) ((HFR.out.trans (Frm.alloc p wr hpl _)).trans hfr2))
          clear hbu2 hbel2 hfr2
          go_wp2_with fail
          go_roundw
          case rel => exact QueueRel.next hlt HZ.out HB2.out HE2.out
          case measure => simp [intOf]; omega
    · obtain rfl : k = ss.length := by omega
      go_wp2
      go_end0
      exact ⟨rfl, by have := HBU.out; rwa [List.take_length] at this, HBEL.out, HFR.out⟩
end Go.Proofs.Ytboiigeomgdkjaa
