/-
  The contracts of impl.Edited, impl.EditedText, impl.Replaced and impl.EditedTwice. For every text and edits whose order is settled.
-/
import Derived.Test.YtboiigeomgdkjaaBytesOf
import Derived.Lib.ConvBytes
set_option linter.unusedVariables false
set_option maxHeartbeats 2000000
set_option maxRecDepth 100000
namespace Go.Proofs.Ytboiigeomgdkjaa
open Go.RowKit Go.PlainAid Go.Lib

/-- edits that lie within a text, do not overlap in order, and make one text of it -/
def Good (d : ByteArray) (ss : List St) (T : Bs) : Prop :=
  d.size ≤ 4294967296 ∧ ss.length ≤ 4294967295 ∧ (∀ z ∈ ss, inN d.size z) ∧ (∃ M, (∀ z ∈ ss, z.2.2.size ≤ M) ∧ ss.length * M ≤ 100000000000000) ∧ ∀ g, Sd ltE 0 ss.length (fnl ss) g → Chn g ss.length ∧ finK g (L d) ss.length = T
theorem buf_new (w : World) (d : ByteArray) (B : Nat) (hB : B ≤ w.heap.size) (hd : d.size ≤ 4294967296) (T : TypeId) :
    BufAt ((Lib.bytesWorld w T d).alloc (.cells #[.slice (some ⟨w.heap.size, 0, none⟩) d.size (grownCap w d.size 0 T), .slice none 0 0] 56)) B (w.heap.size + 1) (.slice (some ⟨w.heap.size, 0, none⟩) d.size (grownCap w d.size 0 T)) d [] := by
  have hs := Lib.bytesWorld_size w T d
  refine ⟨.slice none 0 0, ?_, by omega, (row_of_bytes w T d B hB (by unfold maxLen; omega)).alloc _, World.ownsRow_nil _ _ _ _, by simp [Value.ownBlock], by simp [Value.ownBlock], .inl rfl⟩
  rw [← hs]; exact heap_alloc_new _ _
theorem below_new (w : World) (d : ByteArray) (T : TypeId) (o : Obj) : Below w.heap.size w ((Lib.bytesWorld w T d).alloc o) := (below_bytesWorld (Below.refl _ _) (Nat.le_refl _) _ _).alloc (by rw [Lib.bytesWorld_size]; omega) _
theorem bytes_good (w : World) (B p : Nat) (ov : Value) (d : ByteArray) (l : List St) (T : Bs) (hg : Good d l T) (h : BufAt w B p ov d l) :
    Calls Try.prog 28 #[.pointer (some ⟨p, 0, none⟩)] w fun e w' => ∃ g v, Sd ltE 0 l.length (fnl l) g ∧ e = .returned v ∧ Row w' w.heap.size 1 v (mkB T).size (byteCells (mkB T)) ∧ BufAt w' B p ov d (tab g l.length) ∧ Below B w w' ∧ Frm p w w' ∧ ∀ q, v.ownBlock = some q → Spare p w' q := by
  obtain ⟨h1, h2, h3, ⟨M, h4, h5⟩, h6⟩ := hg
  refine (bytes_any w B p ov d l M h1 h2 h3 h4 h5 (fun g hg => (h6 g hg).1) h).mono ?_
  rintro e w' ⟨g, v, k1, k2, k3, k4, k5⟩
  rw [(h6 g k1).2] at k3
  exact ⟨g, v, k1, k2, k3, k4, k5⟩
/-- what the thin package's functions leave -/
def TextPost (w : World) (t : ByteArray) (e : Ending) (w' : World) : Prop := e = .returned (.string t) ∧ Below w.heap.size w w'
theorem queued (w : World) (d : ByteArray) (ss : List St) (a : Option Addr) (c : Nat) (ha : Arg w w.heap.size 3 a ss.length (stepCells ss)) (T : Bs) (hg : Good d ss T) (w1 : World) (hw : w1 = (Lib.bytesWorld w 5 d).alloc (.cells #[.slice (some ⟨w.heap.size, 0, none⟩) d.size (grownCap w d.size 0 5), .slice none 0 0] 56)) :
    Calls Try.prog 27 #[.pointer (some ⟨w.heap.size + 1, 0, none⟩), .slice a ss.length c] w1 (BufPost w1 w.heap.size (w.heap.size + 1) (.slice (some ⟨w.heap.size, 0, none⟩) d.size (grownCap w d.size 0 5)) d ss) := by
  subst hw
  have h := queue_any _ w.heap.size (w.heap.size + 1) _ d [] ss a c (buf_new w d w.heap.size (Nat.le_refl _) hg.1 5) (ha.below (below_new w d _ _)) (by have := hg.2.1; simp; omega) hg.1 hg.2.2.1
  rwa [List.nil_append] at h
theorem newBuffer_any (w : World) (a : Option Addr) (n c : Nat) : Calls Try.prog 26 #[.slice a n c] w fun e w' => e = .returned (.pointer (some ⟨w.heap.size, 0, none⟩)) ∧ w.alloc (.cells #[.slice a n c, .slice none 0 0] 56) = w' := by
  go_enter Try.func26, Try.ntmps26
  go_wp2
  go_ret
  exact ⟨rfl, rfl⟩
/-- Bytes as a text -/
theorem string_any (w : World) (B p : Nat) (ov : Value) (d : ByteArray) (l : List St) (T : Bs) (hg : Good d l T) (h : BufAt w B p ov d l) :
    Calls Try.prog 29 #[.pointer (some ⟨p, 0, none⟩)] w fun e w' => e = .returned (.string (mkB T)) ∧ Below B w w' := by
  have HG := Lib.hid hg
  have H := Lib.hid h
  clear hg h
  go_enter Try.func29, Try.ntmps29
  go_wp2_with fail
  refine (bytes_good w B p ov d l T HG.out H.out).mono ?_
  rintro e w' ⟨g, v, _, rfl, hr, _, hb, _⟩
  have hcv2 := run_string_row w' Try.underlying43 Try.underlying5 hr 9 Try.underlying9
  have HB := Lib.hid hb
  obtain ⟨va, vc, rfl⟩ := hr.shape
  clear hr hb
  go_wp2
  go_ret
  exact ⟨rfl, HB.out⟩
theorem edited_any (w : World) (d : ByteArray) (ss : List St) (a : Option Addr) (c : Nat) (ha : Arg w w.heap.size 3 a ss.length (stepCells ss)) (T : Bs) (hg : Good d ss T) :
    Calls Try.prog 15 #[.string d, .slice a ss.length c] w (TextPost w (mkB T)) := by
  have HQ := Lib.hid (fun w1 hw => queued w d ss a c ha T hg w1 hw)
  have HG := Lib.hid hg
  have hcv := fun W => Lib.run_convert_string_bytes (P := Try.prog) W 9 43 5 d Try.underlying9 Try.underlying43 Try.underlying5
  have hs := Lib.bytesWorld_size w 5 d
  clear hg ha
  go_enter Try.func15, Try.ntmps15
  go_wp2_with fail
  refine (newBuffer_any _ _ _ _).mono ?_
  rintro e w1 ⟨rfl, h1⟩
  have hq := HQ.out w1 h1.symm
  have HB1 := Lib.hid (show Below w.heap.size w w1 by rw [← h1]; exact below_new w d _ _)
  rw [hs]
  clear h1 hs
  go_wp2_with fail
  refine hq.mono ?_
  clear hq
  rintro e w2 ⟨rfl, hbu, hb2, _⟩
  have HB2 := Lib.hid (HB1.out.trans hb2)
  have HBU := Lib.hid hbu
  clear hbu hb2
  go_wp2_with fail
  refine (bytes_good w2 _ _ _ d ss T HG.out HBU.out).mono ?_
  rintro e w3 ⟨g, v, _, rfl, hr, _, hb, _⟩
  have hcv2 := run_string_row w3 Try.underlying43 Try.underlying5 hr 9 Try.underlying9
  have HB3 := Lib.hid (HB2.out.trans hb)
  obtain ⟨va, vc, rfl⟩ := hr.shape
  clear hr hb hcv
  go_wp2
  go_ret
  exact ⟨rfl, HB3.out⟩
theorem editedText_any (w : World) (d : ByteArray) (ss : List St) (a : Option Addr) (c : Nat) (ha : Arg w w.heap.size 3 a ss.length (stepCells ss)) (T : Bs) (hg : Good d ss T) :
    Calls Try.prog 16 #[.string d, .slice a ss.length c] w (TextPost w (mkB T)) := by
  have HQ := Lib.hid (fun w1 hw => queued w d ss a c ha T hg w1 hw)
  have HG := Lib.hid hg
  have hcv := fun W => Lib.run_convert_string_bytes (P := Try.prog) W 9 43 5 d Try.underlying9 Try.underlying43 Try.underlying5
  have hs := Lib.bytesWorld_size w 5 d
  clear hg ha
  go_enter Try.func16, Try.ntmps16
  go_wp2_with fail
  refine (newBuffer_any _ _ _ _).mono ?_
  rintro e w1 ⟨rfl, h1⟩
  have hq := HQ.out w1 h1.symm
  have HB1 := Lib.hid (show Below w.heap.size w w1 by rw [← h1]; exact below_new w d _ _)
  rw [hs]
  clear h1 hs
  go_wp2_with fail
  refine hq.mono ?_
  clear hq
  rintro e w2 ⟨rfl, hbu, hb2, _⟩
  have HB2 := Lib.hid (HB1.out.trans hb2)
  have HBU := Lib.hid hbu
  clear hbu hb2
  go_wp2_with fail
  refine (string_any w2 _ _ _ d ss T HG.out HBU.out).mono ?_
  rintro e w3 ⟨rfl, hb⟩
  have HB3 := Lib.hid (HB2.out.trans hb)
  clear hb hcv
  go_wp2
  go_ret
  exact ⟨rfl, HB3.out⟩
end Go.Proofs.Ytboiigeomgdkjaa
