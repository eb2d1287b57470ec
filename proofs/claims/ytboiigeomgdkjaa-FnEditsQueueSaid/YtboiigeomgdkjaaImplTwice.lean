/-
  The contracts of impl.Replaced and impl.EditedTwice. For every text and edits whose order is settled.
-/
import Derived.Test.YtboiigeomgdkjaaImplEdit
set_option linter.unusedVariables false
set_option maxHeartbeats 2000000
set_option maxRecDepth 100000
namespace Go.Proofs.Ytboiigeomgdkjaa
open Go.RowKit Go.PlainAid Go.Lib

theorem replaced_any (w : World) (d : ByteArray) (ss : List St) (a : Option Addr) (c : Nat) (ha : Arg w w.heap.size 3 a ss.length (stepCells ss)) (T : Bs) (hg : Good d ss T) :
    Calls Try.prog 20 #[.string d, .slice a ss.length c] w (TextPost w (mkB T)) := by
  have HA := Lib.hid ha
  have HG := Lib.hid hg
  have hcv := fun W => Lib.run_convert_string_bytes (P := Try.prog) W 9 43 5 d Try.underlying9 Try.underlying43 Try.underlying5
  have hs := Lib.bytesWorld_size w 5 d
  have hd := hg.1
  have hl := hg.2.1
  have HN := Lib.hid (buf_new w d w.heap.size (Nat.le_refl _) hg.1 5)
  have HB := Lib.hid (below_new w d 5 (.cells #[.slice (some ⟨w.heap.size, 0, none⟩) d.size (grownCap w d.size 0 5), .slice none 0 0] 56))
  clear hg ha
  go_enter Try.func20, Try.ntmps20
  go_wp2_with fail
  refine (newBuffer_any _ _ _ _).mono ?_
  rintro e w1 ⟨rfl, h1⟩
  rw [hs]
  rw [h1] at HN HB
  clear h1 hs hcv
  generalize grownCap w d.size 0 5 = gc at *
  go_wp2_with fail
  go_loopw [13] (QueueRel w1 w.heap.size (w.heap.size + 1) (.slice (some ⟨w.heap.size, 0, none⟩) d.size gc) d [] ss) (fun iv _ => ss.length - (intOf iv).toNat)
  case atStart => exact ⟨0, rfl, Nat.zero_le _, by simpa using HN.out, Below.refl _ _, Frm.refl _ _⟩
  case round =>
    clear HN
    obtain ⟨k, rfl, hk, hbu, hbel, hfr⟩ := hrel
    have HFR := Lib.hid hfr
    clear hfr
    have HBU := Lib.hid hbu
    have HBEL := Lib.hid hbel
    clear hbu hbel
    by_cases hlt : k < ss.length
    · obtain ⟨b, o, rfl, hbB, c0, c1, c2⟩ := (HA.out.below (HB.out.trans HBEL.out)).step k hlt
      have hz := HG.out.2.2.1 ss[k] (List.getElem_mem _)
      unfold inN at hz
      have hlen : ([] ++ ss.take k).length ≤ 4294967295 := by rw [List.nil_append, List.length_take]; omega
      obtain ⟨z, hzz⟩ : ∃ z, z = ss[k] := ⟨_, rfl⟩
      rw [← hzz] at hz c0 c1 c2
      have HZ := Lib.hid hzz
      have HLEN := Lib.hid hlen
      obtain ⟨x, y, t⟩ := z
      dsimp only at hz c0 c1 c2
      obtain ⟨z1, z2, z3⟩ := hz
      clear hzz hlen
      have HW := Lib.hid (HBU.out.keep (w' := wr.alloc (.cells #[.int .i64 x, .int .i64 y, .string t] 33)) (by simp) (fun q hq => Below.heap_alloc wr _ q hq))
      have hpl : w.heap.size + 1 < wr.heap.size := by
        obtain ⟨v, g1, g2, _⟩ := HBU.out
        exact block_lt_of_cell (cell_of_row wr (w.heap.size + 1) 0 _ _ _ g1 : wr.cell? ⟨w.heap.size + 1, 0, none⟩ = some _)
      have hBs : w.heap.size ≤ wr.heap.size := by omega
      go_wp2_with fail
      refine (replace_any _ _ _ _ d _ HW.out HLEN.out hd x y t z1 z2 z3).mono ?_
      rintro e w' ⟨rfl, hbu2, hbel2, hfr2⟩
      have HB2 := Lib.hid hbu2
      have HE2 := Lib.hid (And.intro ((HBEL.out.alloc hBs _).trans hbel2) ((HFR.out.trans (Frm.alloc _ wr hpl _)).trans hfr2))
      clear hbu2 hbel2 hfr2
      go_wp2_with fail
      go_roundw
      case rel => exact QueueRel.next hlt HZ.out HB2.out HE2.out
      case measure => simp [intOf]; omega
    · obtain ⟨n, hn⟩ : ∃ n, n = ss.length := ⟨_, rfl⟩
      have HBU2 : Hid (BufAt wr w.heap.size (w.heap.size + 1) (.slice (some ⟨w.heap.size, 0, none⟩) d.size gc) d ss) := by
        have := HBU.out
        rw [List.nil_append, List.take_of_length_le (by omega)] at this
        exact this
      have HB2 := Lib.hid (HB.out.trans HBEL.out)
      clear hn HBU
      go_wp2_with fail
      refine (bytes_good wr _ _ _ d ss T HG.out HBU2.out).mono ?_
      rintro e w3 ⟨g, v, _, rfl, hr, _, hb, _⟩
      have hcv2 := run_string_row w3 Try.underlying43 Try.underlying5 hr 9 Try.underlying9
      have HB3 := Lib.hid (HB2.out.trans hb)
      obtain ⟨va, vc, rfl⟩ := hr.shape
      clear hr hb
      go_wp2
      go_ret
      exact ⟨rfl, HB3.out⟩
theorem editedTwice_any (w : World) (d : ByteArray) (s1 s2 : List St) (a1 a2 : Option Addr) (c1 c2 : Nat) (ha1 : Arg w w.heap.size 3 a1 s1.length (stepCells s1)) (ha2 : Arg w w.heap.size 3 a2 s2.length (stepCells s2)) (T1 T2 : Bs) (hg1 : Good d s1 T1)
    (hg2 : ∀ g, Sd ltE 0 s1.length (fnl s1) g → Good d (tab g s1.length ++ s2) T2) :
    Calls Try.prog 14 #[.string d, .slice a1 s1.length c1, .slice a2 s2.length c2] w fun e w' => e = .returned (.tuple #[.string (mkB T1), .string (mkB T2), .string d]) ∧ Below w.heap.size w w' := by
  have HQ := Lib.hid (fun w1 hw => queued w d s1 a1 c1 ha1 T1 hg1 w1 hw)
  have HG := Lib.hid hg1
  have HG2 := Lib.hid hg2
  have HA2 := Lib.hid ha2
  have hcv := fun W => Lib.run_convert_string_bytes (P := Try.prog) W 9 43 5 d Try.underlying9 Try.underlying43 Try.underlying5
  have hs := Lib.bytesWorld_size w 5 d
  clear hg1 hg2 ha1 ha2
  go_enter Try.func14, Try.ntmps14
  go_wp2_with fail
  refine (newBuffer_any _ _ _ _).mono ?_
  rintro e w1 ⟨rfl, h1⟩
  have hq := HQ.out w1 h1.symm
  have HB1 := Lib.hid (show Below w.heap.size w w1 by rw [← h1]; exact below_new w d _ _)
  rw [hs]
  clear h1 hs HQ hcv
  generalize grownCap w d.size 0 5 = gc at *
  go_wp2_with fail
  refine hq.mono ?_
  clear hq
  rintro e w2 ⟨rfl, hbu, hb2, _⟩
  have HB2 := Lib.hid (HB1.out.trans hb2)
  have HBU := Lib.hid hbu
  clear hbu hb2
  go_wp2_with fail
  refine (bytes_good w2 _ _ _ d s1 T1 HG.out HBU.out).mono ?_
  rintro e w3 ⟨g, v3, hsd, rfl, hr3, hbu3, hb3, hf3, hsp3⟩
  have HR3 := Lib.hid hr3
  have HBU3 := Lib.hid hbu3
  have HB3 := Lib.hid (HB2.out.trans hb3)
  have HG3 := Lib.hid (HG2.out g hsd)
  obtain ⟨va3, vc3, rfl⟩ := hr3.shape
  have HS3 := Lib.hid hsp3
  clear hr3 hb3 hbu3 hsd HG2 hsp3 hf3
  have hq2 := queue_any w3 w.heap.size (w.heap.size + 1) _ d (tab g s1.length) s2 a2 c2 HBU3.out (HA2.out.below HB3.out) (by have := HG3.out.2.1; rwa [List.length_append] at this) HG3.out.1 (fun z hz => HG3.out.2.2.1 z (List.mem_append_right _ hz))
  go_wp2_with fail
  refine hq2.mono ?_
  clear hq2
  rintro e w4 ⟨rfl, hbu4, hb4, hf4⟩
  have HBU4 := Lib.hid hbu4
  have HB4 := Lib.hid (HB3.out.trans hb4)
  have hz34 : w3.heap.size ≤ w4.heap.size := hb4.size
  have HF4 := Lib.hid hf4
  clear hbu4 hb4 hf4 HBU3 HBU HB2 HB3
  go_wp2_with fail
  refine (bytes_good w4 _ _ _ d _ T2 HG3.out HBU4.out).mono ?_
  rintro e w5 ⟨g5, v5, _, rfl, hr5, hbu5, hb5, hf5, _⟩
  have HB5 := Lib.hid (HB4.out.trans hb5)
  have hr35 : Row w5 w2.heap.size 1 (.slice va3 (mkB T1).size vc3) (mkB T1).size (byteCells (mkB T1)) := HR3.out.keep (Nat.le_trans hz34 hb5.size) (fun q hq _ _ => (hf5 q (HF4.out q (HS3.out q hq)).1).2.trans (HF4.out q (HS3.out q hq)).2)
  obtain ⟨u5, _, _, ho5, _⟩ := hbu5
  obtain ⟨va5, vc5, rfl⟩ := hr5.shape
  have q1 := fun k => run_string_row (w5.drewN k) Try.underlying43 Try.underlying5 (hr35.drewN k) 9 Try.underlying9
  have q2 := fun k => run_string_row (w5.drewN k) Try.underlying43 Try.underlying5 (hr5.drewN k) 9 Try.underlying9
  have q3 := fun k => run_string_row (w5.drewN k) Try.underlying43 Try.underlying5 (ho5.drewN k) 9 Try.underlying9
  clear hr5 hr35 ho5 hb5 hf5 HS3 HF4 HR3
  go_wp2
  go_quiet (fail)
  go_wp2
  go_ret3
  exact ⟨rfl, below_drewN HB5.out _⟩
end Go.Proofs.Ytboiigeomgdkjaa
