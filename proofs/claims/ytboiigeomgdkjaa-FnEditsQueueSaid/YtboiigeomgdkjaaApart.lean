/-
  The contracts of laws.zzFits1, spec.SizeOfSteps, spec.Inside, spec.Touch and spec.Apart. For every list of steps.
-/
import Derived.Test.YtboiigeomgdkjaaGoodEdit
set_option linter.unusedVariables false
set_option maxHeartbeats 2000000
set_option maxRecDepth 100000
namespace Go.Proofs.Ytboiigeomgdkjaa
open Go.RowKit Go.PlainAid Go.Lib

def SomeB (p : Prop) (w : World) (e : Ending) (w' : World) : Prop := ∃ b : Bool, e = .returned (.bool b) ∧ (b = true → p) ∧ Below w.heap.size w w'
theorem fits2_any (z : St) (w : World) : Calls Try.prog 30 #[.agg #[.int .i64 z.1, .int .i64 z.2.1, .string z.2.2]] w (SomeB True w) := by
  obtain ⟨x, y, t⟩ := z
  dsimp only
  by_cases h : 2147483647 < t.size
  · go_enter Try.func30, Try.ntmps30
    go_wp2
    go_ret
    exact ⟨_, rfl, fun _ => trivial, (Below.refl _ _).alloc (Nat.le_refl _) _⟩
  · go_enter Try.func30, Try.ntmps30
    go_wp2
    go_ret
    exact ⟨_, rfl, fun _ => trivial, (Below.refl _ _).alloc (Nat.le_refl _) _⟩
def WalkRel (n : Nat) (p : Nat → Prop) (w : World) (iv : Value) (wr : World) : Prop := ∃ k : Nat, iv = .int .i64 k ∧ k ≤ n ∧ p k ∧ Below w.heap.size w wr
theorem below_in {w wr w' : World} {o : Obj} (h : Below w.heap.size w wr) (h2 : Below (wr.alloc o).heap.size (wr.alloc o) w') : Below w.heap.size w w' :=
  (h.alloc h.size o).trans (h2.mono (by have := h.size; simp; omega))
theorem fits1_any (a : Option Addr) (c : Nat) (ss : List St) (w : World) (ha : Arg w w.heap.size 3 a ss.length (stepCells ss)) (hl : ss.length ≤ 9223372036854775807) :
    Calls Try.prog 17 #[.slice a ss.length c] w (SomeB (ss.length ≤ 2147483647) w) := by
  have HA := Lib.hid ha
  clear ha
  by_cases h : 2147483647 < ss.length
  · go_enter Try.func17, Try.ntmps17
    go_wp2
    go_ret
    exact ⟨_, rfl, (by simp), Below.refl _ _⟩
  go_enter Try.func17, Try.ntmps17
  go_wp2
  go_loopw [10] (WalkRel ss.length (fun _ => True) w) (fun iv _ => ss.length - (intOf iv).toNat)
  case atStart => exact ⟨0, rfl, Nat.zero_le _, trivial, Below.refl _ _⟩
  case round =>
    obtain ⟨k, rfl, hk, _, hbel⟩ := hrel
    have HB := Lib.hid hbel
    clear hbel
    by_cases hlt : k < ss.length
    · obtain ⟨b, o, rfl, hbB, c0, c1, c2⟩ := (HA.out.below HB.out).step k hlt
      generalize ss[k] = z at *
      have hf := fits2_any z
      go_wp2_with fail
      refine (hf _).mono ?_
      rintro e w2 ⟨bb, rfl, _, hb2⟩
      have HB2 := Lib.hid (below_in HB.out hb2)
      clear hb2 hf
      cases bb with
      | true =>
        go_wp2_with fail
        go_roundw
        case rel => exact ⟨k + 1, by go_num, by omega, trivial, HB2.out⟩
        case measure => simp [intOf]; omega
      | false =>
        go_wp2_with fail
        go_ret
        exact ⟨_, rfl, (by simp), HB2.out⟩
    · go_wp2
      go_ret
      exact ⟨_, rfl, fun _ => by omega, HB.out⟩
def SizePost (ss : List St) (w : World) (e : Ending) (w' : World) : Prop := ∃ n : Nat, e = .returned (.int .i64 n) ∧ n ≤ 1000001 ∧ (n ≤ 1000000 → ss.length ≤ 1000000 ∧ ∀ z ∈ ss, z.2.2.size ≤ 1000000) ∧ Below w.heap.size w w'
def SizeRel (ss : List St) (w : World) (sv iv : Value) (wr : World) : Prop := ∃ k s : Nat, iv = .int .i64 k ∧ sv = .int .i64 s ∧ k ≤ ss.length ∧ k ≤ s ∧ s ≤ 1000000 ∧ (∀ z ∈ ss.take k, z.2.2.size ≤ 1000000) ∧ Below w.heap.size w wr
theorem sizeOfSteps_any (a : Option Addr) (c : Nat) (ss : List St) (w : World) (ha : Arg w w.heap.size 3 a ss.length (stepCells ss)) (hl : ss.length ≤ 9223372036854775807) (hw : ∀ z ∈ ss, z.2.2.size ≤ 9223372036854775807) :
    Calls Try.prog 18 #[.slice a ss.length c] w (SizePost ss w) := by
  have HA := Lib.hid ha
  have HW := Lib.hid hw
  clear ha hw
  go_enter Try.func18, Try.ntmps18
  go_wp2
  go_loopw [3, 8] (SizeRel ss w) (fun _ iv _ => ss.length - (intOf iv).toNat)
  case atStart => exact ⟨0, 0, rfl, rfl, Nat.zero_le _, Nat.le_refl _, by omega, by simp, Below.refl _ _⟩
  case round =>
    obtain ⟨k, s, rfl, rfl, hk, hks, hs, hz, hbel⟩ := hrel
    have HB := Lib.hid hbel
    have HZ := Lib.hid hz
    clear hbel hz
    by_cases hlt : k < ss.length
    · obtain ⟨b, o, rfl, hbB, c0, c1, c2⟩ := (HA.out.below HB.out).step k hlt
      have hsz := HW.out _ (List.getElem_mem hlt)
      have HT := Lib.hid (List.take_succ_eq_append_getElem hlt)
      obtain ⟨z, hzz⟩ : ∃ z, z = ss[k] := ⟨_, rfl⟩
      rw [← hzz] at c0 c1 c2 hsz HT
      clear hzz
      obtain ⟨x, y, t⟩ := z
      dsimp only at c0 c1 c2 hsz
      by_cases h : 1000000 - s ≤ t.size
      · have h' : (1000000 : Int) - s ≤ (t.size : Int) := by omega
        go_wp2_with fail
        go_ret
        exact ⟨1000001, rfl, Nat.le_refl _, by omega, HB.out.alloc HB.out.size _⟩
      · have h' : ¬ ((1000000 : Int) - s ≤ (t.size : Int)) := by omega
        go_wp2_with fail
        go_roundw
        case rel =>
          refine ⟨k + 1, s + (t.size + 1), by go_num, i64e (by omega), by omega, by omega, by omega, ?_, HB.out.alloc HB.out.size _⟩
          rw [HT.out]
          intro z hz
          rcases List.mem_append.1 hz with h1 | h1
          · exact HZ.out z h1
          · simp at h1; subst h1; dsimp only; omega
        case measure => simp [intOf]; omega
    · go_wp2
      go_ret
      exact ⟨s, rfl, by omega, fun _ => ⟨by omega, fun z hz => HZ.out z (by rwa [List.take_of_length_le (by omega)])⟩, HB.out⟩
theorem inside_any (z : St) (n : Nat) (w : World) : Calls Try.prog 31 #[.agg #[.int .i64 z.1, .int .i64 z.2.1, .string z.2.2], .int .i64 n] w (SomeB (inN n z) w) := by
  obtain ⟨x, y, t⟩ := z
  unfold inN
  dsimp only
  by_cases h0 : 0 ≤ x
  · by_cases h1 : x ≤ y
    · by_cases h2 : y ≤ (n : Int)
      · have HP := Lib.hid (And.intro h0 (And.intro h1 h2))
        go_enter Try.func31, Try.ntmps31
        go_wp2
        go_ret
        exact ⟨_, rfl, fun _ => HP.out, (Below.refl _ _).alloc (Nat.le_refl _) _⟩
      · go_enter Try.func31, Try.ntmps31
        go_wp2
        go_ret
        exact ⟨_, rfl, (by simp), (Below.refl _ _).alloc (Nat.le_refl _) _⟩
    · go_enter Try.func31, Try.ntmps31
      go_wp2
      go_ret
      exact ⟨_, rfl, (by simp), (Below.refl _ _).alloc (Nat.le_refl _) _⟩
  · go_enter Try.func31, Try.ntmps31
    go_wp2
    go_ret
    exact ⟨_, rfl, (by simp), (Below.refl _ _).alloc (Nat.le_refl _) _⟩
/-- what is told where edits do not touch -/
def SomeN (p : Prop) (w : World) (e : Ending) (w' : World) : Prop := ∃ b : Bool, e = .returned (.bool b) ∧ (b = false → p) ∧ Below w.heap.size w w'
theorem touch_any (z y : St) (w : World) : Calls Try.prog 32 #[.agg #[.int .i64 z.1, .int .i64 z.2.1, .string z.2.2], .agg #[.int .i64 y.1, .int .i64 y.2.1, .string y.2.2]] w (SomeN (apartR z y) w) := by
  obtain ⟨x1, x2, t⟩ := z
  obtain ⟨y1, y2, u⟩ := y
  show Calls _ _ #[.agg #[.int .i64 x1, .int .i64 x2, .string t], .agg #[.int .i64 y1, .int .i64 y2, .string u]] w _
  have hb : ∀ o1 o2, Below w.heap.size w ((w.alloc o1).alloc o2) := fun o1 o2 => ((Below.refl _ _).alloc (Nat.le_refl _) o1).alloc (by simp) o2
  have HBB := Lib.hid hb
  clear hb
  by_cases h0 : x1 ≤ y2
  · by_cases h1 : y1 ≤ x2
    · go_enter Try.func32, Try.ntmps32
      go_wp2
      go_ret
      exact ⟨_, rfl, (by simp), HBB.out _ _⟩
    · have HP : Hid (apartR (x1, x2, t) (y1, y2, u)) := fun h => h1 h.2
      go_enter Try.func32, Try.ntmps32
      go_wp2
      go_ret
      exact ⟨_, rfl, fun _ => HP.out, HBB.out _ _⟩
  · have HP : Hid (apartR (x1, x2, t) (y1, y2, u)) := fun h => h0 h.1
    go_enter Try.func32, Try.ntmps32
    go_wp2
    go_ret
    exact ⟨_, rfl, fun _ => HP.out, HBB.out _ _⟩
/-- the first k edits lie within the text and apart -/
def AprtTo (ss : List St) (n k : Nat) : Prop := (∀ i (h : i < ss.length), i < k → inN n ss[i]) ∧ ∀ i j (hi : i < ss.length) (hj : j < ss.length), i < j → j < k → apartR ss[j] ss[i]
def Aprt (ss : List St) (n : Nat) : Prop := (∀ z ∈ ss, inN n z) ∧ ∀ i j, i < ss.length → j < ss.length → i ≠ j → apartR (fnl ss i) (fnl ss j)
theorem apartR.symm {z y : St} (h : apartR z y) : apartR y z := fun hh => h ⟨hh.2, hh.1⟩
theorem AprtTo.done {ss : List St} {n : Nat} (h : AprtTo ss n ss.length) : Aprt ss n := by
  refine ⟨fun z hz => ?_, fun i j hi hj hij => ?_⟩
  · obtain ⟨i, hi, rfl⟩ := List.mem_iff_getElem.1 hz
    exact h.1 i hi hi
  · rw [fnl_at _ hi, fnl_at _ hj]
    rcases Nat.lt_or_ge i j with h1 | h1
    · exact (h.2 i j hi hj h1 hj).symm
    · exact h.2 j i hj hi (by omega) hi
theorem AprtTo.next {ss : List St} {n k : Nat} (h : AprtTo ss n k) (hk : k < ss.length) (h1 : inN n ss[k]) (h2 : ∀ i (hi : i < ss.length), i < k → apartR ss[k] ss[i]) : AprtTo ss n (k + 1) := by
  refine ⟨fun i hi hik => ?_, fun i j hi hj hij hjk => ?_⟩
  · by_cases he : i = k
    · subst he; exact h1
    · exact h.1 i hi (by omega)
  · by_cases he : j = k
    · subst he; exact h2 i hi hij
    · exact h.2 i j hi hj hij (by omega)
theorem steps_head (w' : World) (b o n c i : Nat) (hi : i ≤ c) (h0 : 0 < c) : (Instr.slice 27 (.slice (some ⟨b, o, none⟩) n c) none (some (.int .i64 (i : Int))) none).run Try.prog w' = .ok (.slice (some ⟨b, o, none⟩) i c) w' := by
  have hs : (sizeOf (Try.prog.elem 27)).run Try.prog w' = .ok 3 w' := by kernel_rfl
  rw [run_slice_h w' 27 _ n c rfl .i64 i (by omega) (by omega), hs]
  have : ¬ c = 0 := by omega
  simp [Result.andThen, sliced, this, Addr.add_lit]
theorem apart_any (a : Option Addr) (c : Nat) (ss : List St) (n : Nat) (w : World) (ha : Arg w w.heap.size 3 a ss.length (stepCells ss)) (hlc : ss.length ≤ c) (hl : c ≤ 9223372036854775807) :
    Calls Try.prog 19 #[.slice a ss.length c, .int .i64 n] w (SomeB (Aprt ss n) w) := by
  have HA := Lib.hid ha
  clear ha
  go_enter Try.func19, Try.ntmps19
  go_wp2
  go_loopw [11] (WalkRel ss.length (AprtTo ss n) w) (fun iv _ => ss.length - (intOf iv).toNat)
  case atStart => exact ⟨0, rfl, Nat.zero_le _, ⟨fun i h hh => by omega, fun i j hi hj h1 h2 => by omega⟩, Below.refl _ _⟩
  case round =>
    obtain ⟨k, rfl, hk, hap, hbel⟩ := hrel
    have HB := Lib.hid hbel
    have HAP := Lib.hid hap
    clear hbel hap
    by_cases hlt : k < ss.length
    · obtain ⟨b, o, hae, hbB, c0, c1, c2⟩ := (HA.out.below HB.out).step k hlt
      subst hae
      obtain ⟨z, hzz⟩ : ∃ z, z = ss[k] := ⟨_, rfl⟩
      rw [← hzz] at c0 c1 c2
      have HZ := Lib.hid hzz
      clear hzz
      have hf := inside_any z n
      have hsl := fun w' => steps_head w' b o ss.length c k (by omega) (by omega)
      obtain ⟨W0, rfl⟩ : ∃ W0 : World, W0 = wr := ⟨_, rfl⟩
      have hg : ∀ o', (W0.alloc (.cells #[.int .i64 z.1, .int .i64 z.2.1, .string z.2.2] 33)).cell? ⟨W0.heap.size, o', none⟩ = #[Value.int .i64 z.1, .int .i64 z.2.1, .string z.2.2][o']? := fun o' => cell_of_row _ _ o' _ _ _ (heap_alloc_new W0 _)
      have HG := Lib.hid hg
      clear hg
      go_wp2_with fail
      refine (hf _).mono ?_
      rintro e w2 ⟨bb, rfl, hin, hb2⟩
      have g0 : w2.cell? ⟨W0.heap.size, 0, none⟩ = some (.int .i64 z.1) := (hb2.cell (p := ⟨W0.heap.size, 0, none⟩) (by simp)).trans (HG.out 0)
      have g1 : w2.cell? ⟨W0.heap.size, 1, none⟩ = some (.int .i64 z.2.1) := (hb2.cell (p := ⟨W0.heap.size, 1, none⟩) (by simp)).trans (HG.out 1)
      have g2 : w2.cell? ⟨W0.heap.size, 2, none⟩ = some (.string z.2.2) := (hb2.cell (p := ⟨W0.heap.size, 2, none⟩) (by simp)).trans (HG.out 2)
      have hz2 : W0.heap.size < w2.heap.size := by have := hb2.size; simp at this; omega
      have HB2 := Lib.hid (below_in HB.out hb2)
      clear hb2 hf c0 c1 c2 HG
      cases bb with
      | false =>
        go_wp2_with fail
        go_ret
        exact ⟨_, rfl, (by simp), HB2.out⟩
      | true =>
        have HIN := Lib.hid (hin rfl)
        clear hin
        go_wp2_with fail
        go_loopw [24] (WalkRel k (fun i => ∀ q (hq : q < ss.length), q < i → apartR z ss[q]) w2) (fun iv _ => k - (intOf iv).toNat)
        case atStart => exact ⟨0, rfl, Nat.zero_le _, fun q hq h => by omega, Below.refl _ _⟩
        case round =>
          obtain ⟨i, rfl, hi, hto, hbel⟩ := hrel
          have HE := Lib.hid hbel
          have HTO := Lib.hid hto
          clear hbel hto
          by_cases hil : i < k
          · obtain ⟨b', o', hae, hbB', d0, d1, d2⟩ := (HA.out.below (HB2.out.trans (HE.out.mono HB2.out.size))).step i (by omega)
            injection hae with hae
            injection hae with e1 e2 _
            subst e1 e2
            obtain ⟨y, hyy⟩ : ∃ y, y = ss[i] := ⟨_, rfl⟩
            rw [← hyy] at d0 d1 d2
            have HY := Lib.hid hyy
            clear hyy
            have f0 : (wr.alloc (.cells #[.int .i64 y.1, .int .i64 y.2.1, .string y.2.2] 33)).cell? ⟨W0.heap.size, 0, none⟩ = some (.int .i64 z.1) := ((HE.out.alloc HE.out.size _).cell (p := ⟨W0.heap.size, 0, none⟩) hz2).trans g0
            have f1 : (wr.alloc (.cells #[.int .i64 y.1, .int .i64 y.2.1, .string y.2.2] 33)).cell? ⟨W0.heap.size, 1, none⟩ = some (.int .i64 z.2.1) := ((HE.out.alloc HE.out.size _).cell (p := ⟨W0.heap.size, 1, none⟩) hz2).trans g1
            have f2 : (wr.alloc (.cells #[.int .i64 y.1, .int .i64 y.2.1, .string y.2.2] 33)).cell? ⟨W0.heap.size, 2, none⟩ = some (.string z.2.2) := ((HE.out.alloc HE.out.size _).cell (p := ⟨W0.heap.size, 2, none⟩) hz2).trans g2
            have hf := touch_any z y
            go_wp2_with fail
            refine (hf _).mono ?_
            rintro e w3 ⟨bb, rfl, hnt, hb3⟩
            have HB3 := Lib.hid (below_in HE.out hb3)
            clear hb3 hf f0 f1 f2 d0 d1 d2
            cases bb with
            | true =>
              go_wp2_with fail
              go_ret
              exact ⟨_, rfl, (by simp), HB2.out.trans (HB3.out.mono HB2.out.size)⟩
            | false =>
              have HNT := Lib.hid (hnt rfl)
              clear hnt
              go_wp2_with fail
              go_roundw
              case rel =>
                refine ⟨i + 1, by go_num, by omega, fun q hq hqi => ?_, HB3.out⟩
                by_cases he : q = i
                · subst he; have := HNT.out; rwa [HY.out] at this
                · exact HTO.out q hq (by omega)
              case measure => simp [intOf]; omega
          · go_wp2_with fail
            go_roundw
            case rel => exact ⟨k + 1, by go_num, by omega, HAP.out.next hlt (by have := HIN.out; rwa [HZ.out] at this) (fun q hq hqk => by have := HTO.out q hq (by omega); rwa [HZ.out] at this), HB2.out.trans (HE.out.mono HB2.out.size)⟩
            case measure => simp [intOf]; omega
    · go_wp2
      go_ret
      exact ⟨_, rfl, fun _ => AprtTo.done (by have := HAP.out; rwa [show k = ss.length by omega] at this), HB.out⟩
end Go.Proofs.Ytboiigeomgdkjaa
