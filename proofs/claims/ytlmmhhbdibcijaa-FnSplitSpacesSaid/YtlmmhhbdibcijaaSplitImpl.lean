/-
  The contract of impl.Split. For every text of at most 2147483647 bytes.
-/
import Derived.Test.YtlmmhhbdibcijaaSplit
import Derived.Deep.QuietTactic
import Derived.BigQuiet
import Derived.RegionTactic
namespace Go.Proofs.Ytlmmhhbdibcijaa
open Go.RowKit Go.PlainAid

def SplitImplPost (fs : List Bs) (w : World) (e : Ending) (w' : World) : Prop :=
  ∃ v, e = .returned (.tuple #[v, .bool true]) ∧ Row w' w.heap.size 1 v fs.length (fs.map S) ∧ Below w.heap.size w w'

theorem implSplit_some (s : ByteArray) (fs : List Bs) (w : World) (hs : s.size ≤ 2147483647) (hf : splitL (L s) = some fs) :
    Calls Try.prog 16 #[.string s] w (SplitImplPost fs w) := by
  have HF := Lib.hid hf
  clear hf
  go_enter Try.func16, Try.ntmps16
  go_wp2_with fail
  refine (split_any s _ hs).mono ?_
  intro e w' hp
  unfold SplitPost at hp
  rw [HF.out] at hp
  obtain ⟨hb, v, rfl, hr⟩ := hp
  have HB := Lib.hid hb
  have HR := Lib.hid hr
  clear hb hr
  go_wp2
  go_quiet (fail)
  go_wp2
  go_ret2
  exact ⟨_, rfl, HR.out, HB.out.trans (by exact below_drewN (Below.refl _ _) _)⟩
theorem implSplit_none (s : ByteArray) (w : World) (hs : s.size ≤ 2147483647) (hf : splitL (L s) = none) :
    Calls Try.prog 16 #[.string s] w fun e w' => e = .returned (.tuple #[.slice none 0 0, .bool false]) ∧ Below w.heap.size w w' := by
  have HF := Lib.hid hf
  clear hf
  go_enter Try.func16, Try.ntmps16
  go_wp2_with fail
  refine (split_any s _ hs).mono ?_
  intro e w' hp
  unfold SplitPost at hp
  rw [HF.out] at hp
  obtain ⟨hb, T, p, rfl⟩ := hp
  have HB := Lib.hid hb
  clear hb
  go_wp2
  go_quiet (fail)
  go_wp2
  go_ret2
  exact ⟨rfl, HB.out.trans (by exact below_drewN (Below.refl _ _) _)⟩
def SplitFree (w : World) (e : Ending) (w' : World) : Prop := ∃ v ok, e = .returned (.tuple #[v, .bool ok]) ∧ Below w.heap.size w w'
theorem implSplit_free (s : ByteArray) (w : World) (hs : s.size ≤ 2147483647) : Calls Try.prog 16 #[.string s] w (SplitFree w) := by
  cases hf : splitL (L s) with
  | none => exact (implSplit_none s w hs hf).mono fun _ _ ⟨h1, h2⟩ => ⟨_, _, h1, h2⟩
  | some fs => exact (implSplit_some s fs w hs hf).mono fun _ _ ⟨v, h1, _, h2⟩ => ⟨_, _, h1, h2⟩
end Go.Proofs.Ytlmmhhbdibcijaa
