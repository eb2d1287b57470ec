/-
  The contract of impl.Join. For every list of arguments that is together at most 4294967296 bytes, with three for each.
-/
import Derived.Test.YtlmmhhbdibcijaaJoin
import Derived.Test.YtlmmhhbdibcijaaSplitImpl
import Derived.Test.YtlmmhhbdibcijaaArgs
namespace Go.Proofs.Ytlmmhhbdibcijaa
open Go.RowKit Go.PlainAid

theorem implJoin_yes (a : Option Addr) (c : Nat) (ss : List Bs) (w : World) (ha : Arg w w.heap.size 1 a ss.length (ss.map S)) (ht : tot ss ≤ 4294967296) (hb : ss.any both = false) :
    Calls Try.prog 22 #[.slice a ss.length c] w fun e w' => e = .returned (.tuple #[.string (mkB (joinGo ss)), .bool true]) ∧ Below w.heap.size w w' := by
  have HA := Lib.hid ha
  have HT := Lib.hid ht
  have HB := Lib.hid hb
  clear ha ht hb
  go_enter Try.func22, Try.ntmps22
  go_wp2_with fail
  refine (join_any a c ss _ HA.out HT.out).mono ?_
  rintro e w1 ⟨hbel, h⟩
  have he : e = .returned (.tuple #[.string (mkB (joinGo ss)), .nilIface]) := by
    rcases h with ⟨h, _⟩ | ⟨_, h⟩
    · rw [HB.out] at h; cases h
    · exact h
  subst he
  have HBE := Lib.hid hbel
  clear hbel h
  go_wp2
  go_quiet (fail)
  go_wp2
  go_ret2
  exact ⟨rfl, below_drewN HBE.out _⟩
theorem implJoin_no (a : Option Addr) (c : Nat) (ss : List Bs) (w : World) (ha : Arg w w.heap.size 1 a ss.length (ss.map S)) (ht : tot ss ≤ 4294967296) (hb : ss.any both = true) :
    Calls Try.prog 22 #[.slice a ss.length c] w fun e w' => e = .returned (.tuple #[.string ByteArray.empty, .bool false]) ∧ Below w.heap.size w w' := by
  have HA := Lib.hid ha
  have HT := Lib.hid ht
  have HB := Lib.hid hb
  clear ha ht hb
  go_enter Try.func22, Try.ntmps22
  go_wp2_with fail
  refine (join_any a c ss _ HA.out HT.out).mono ?_
  rintro e w1 ⟨hbel, h⟩
  have he : ∃ T p, e = .returned (.tuple #[.string ByteArray.empty, .iface T p]) := by
    rcases h with ⟨_, h⟩ | ⟨h, _⟩
    · exact h
    · rw [HB.out] at h; cases h
  obtain ⟨T, p, rfl⟩ := he
  have HBE := Lib.hid hbel
  clear hbel h
  go_wp2
  go_quiet (fail)
  go_wp2
  go_ret2
  exact ⟨rfl, below_drewN HBE.out _⟩
def JoinFree (n : Nat) (w : World) (e : Ending) (w' : World) : Prop := ∃ (s : ByteArray) (ok : Bool), e = .returned (.tuple #[.string s, .bool ok]) ∧ s.size ≤ n ∧ Below w.heap.size w w'
theorem implJoin_free (a : Option Addr) (c : Nat) (ss : List Bs) (w : World) (ha : Arg w w.heap.size 1 a ss.length (ss.map S)) (ht : tot ss ≤ 4294967296) : Calls Try.prog 22 #[.slice a ss.length c] w (JoinFree (tot ss) w) := by
  cases hb : ss.any both with
  | true => exact (implJoin_no a c ss w ha ht hb).mono fun _ _ ⟨h1, h2⟩ => ⟨_, _, h1, Nat.zero_le _, h2⟩
  | false => exact (implJoin_yes a c ss w ha ht hb).mono fun _ _ ⟨h1, h2⟩ => ⟨_, _, h1, by rw [size_mkB]; exact joinGo_len ss, h2⟩
/-- one argument in a new block -/
theorem arg_new1 (w : World) (s : ByteArray) (e : TypeId) : Arg (w.alloc (.cells #[.string s] e)) (w.alloc (.cells #[.string s] e)).heap.size 1 (some ⟨w.heap.size, 0, none⟩) [L s].length ([L s].map S) := by
  refine ⟨rfl, fun _ => ⟨w.heap.size, 0, rfl, by simp, fun j hj => ?_⟩⟩
  obtain rfl : j = 0 := by simp at hj; omega
  rw [cell_of_row _ _ _ _ _ _ (heap_alloc_new w (.cells #[.string s] e)), List.map_cons, ← S_L]; rfl
theorem tot_one (s : ByteArray) : tot [L s] = s.size + 3 := by simp [tot, L_len]
/-- Join of "a", which the laws ask for -/
theorem implJoin_a (w : World) (c : Nat) : Calls Try.prog 22 #[.slice (some ⟨w.heap.size, 0, none⟩) 1 c] (w.alloc (.cells #[.string ⟨#[97]⟩] 9)) fun e w' => e = .returned (.tuple #[.string (mkB [97]), .bool true]) ∧ Below w.heap.size w w' :=
  (implJoin_yes _ c [L ⟨#[97]⟩] _ (arg_new1 w ⟨#[97]⟩ 9) (by rw [tot_one]; decide) (by decide)).mono fun _ _ ⟨h1, h2⟩ => ⟨h1, ((Below.refl _ _).alloc (Nat.le_refl _) _).trans (h2.mono (by simp))⟩
/-- Join of one argument -/
theorem implJoin1_yes (W : World) (n c : Nat) (s : ByteArray) (hn : W.heap.size = n) (hs : s.size ≤ 2147483647) (hb : both (L s) = false) :
    Calls Try.prog 22 #[.slice (some ⟨n, 0, none⟩) 1 c] (W.alloc (.cells #[.string s] 9)) fun e w' => e = .returned (.tuple #[.string (mkB (quoteL (L s))), .bool true]) ∧ Below W.heap.size W w' := by
  subst hn
  exact (implJoin_yes _ c [L s] _ (arg_new1 W s 9) (by rw [tot_one]; omega) (by simp [hb])).mono fun _ _ ⟨h1, h2⟩ => ⟨h1, ((Below.refl _ _).alloc (Nat.le_refl _) _).trans (h2.mono (by simp))⟩
theorem implJoin1_no (W : World) (n c : Nat) (s : ByteArray) (hn : W.heap.size = n) (hs : s.size ≤ 2147483647) (hb : both (L s) = true) :
    Calls Try.prog 22 #[.slice (some ⟨n, 0, none⟩) 1 c] (W.alloc (.cells #[.string s] 9)) fun e w' => e = .returned (.tuple #[.string ByteArray.empty, .bool false]) ∧ Below W.heap.size W w' := by
  subst hn
  exact (implJoin_no _ c [L s] _ (arg_new1 W s 9) (by rw [tot_one]; omega) (by simp [hb])).mono fun _ _ ⟨h1, h2⟩ => ⟨h1, ((Below.refl _ _).alloc (Nat.le_refl _) _).trans (h2.mono (by simp))⟩
theorem implJoin1_free (W : World) (n c : Nat) (s : ByteArray) (hn : W.heap.size = n) (hs : s.size ≤ 2147483647) :
    Calls Try.prog 22 #[.slice (some ⟨n, 0, none⟩) 1 c] (W.alloc (.cells #[.string s] 9)) (JoinFree (s.size + 3) W) := by
  subst hn
  have := implJoin_free _ c [L s] _ (arg_new1 W s 9) (by rw [tot_one]; omega)
  rw [tot_one] at this
  exact this.mono fun _ _ ⟨s1, ok, h1, h2, h3⟩ => ⟨s1, ok, h1, h2, ((Below.refl _ _).alloc (Nat.le_refl _) _).trans (h3.mono (by simp))⟩
end Go.Proofs.Ytlmmhhbdibcijaa
