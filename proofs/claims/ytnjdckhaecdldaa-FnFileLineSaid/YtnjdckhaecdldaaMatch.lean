/-
  The contracts of (*Matcher).matchResult, ShouldEnable, ShouldPrint, MarkerOnly over a matcher that lies in a block of its own. No condition but the sizes.
-/
import Derived.Test.YtnjdckhaecdldaaMat
import Derived.Lib.Hide
import Derived.Outline
import Derived.Deep.QuietTactic
import Derived.BigQuiet
set_option linter.unusedVariables false
namespace Go.Proofs.Ytnjdckhaecdldaa
open Go.RowKit Go.PlainAid Go.Lib

def condB (id : Int) (c : Cond) : Bool := bits .and .u64 id c.mask == c.bits
/-- what the first k conditions tell, the last one that matches first -/
def matchTo (l : List Cond) (id : Int) : Nat → Bool
  | 0 => false
  | k + 1 => match l[k]? with
    | some c => if condB id c then c.res else matchTo l id k
    | none => matchTo l id k
def matchL (l : List Cond) (id : Int) : Bool := matchTo l id l.length
theorem condCells_at (l : List Cond) (k : Nat) (h : k < l.length) : (condCells l)[k * 3]? = some (.int .u64 l[k].mask) ∧ (condCells l)[k * 3 + 1]? = some (.int .u64 l[k].bits) ∧ (condCells l)[k * 3 + 2]? = some (.bool l[k].res) := by
  induction l generalizing k with
  | nil => simp at h
  | cons a l ih =>
    have e : condCells (a :: l) = [.int .u64 a.mask, .int .u64 a.bits, .bool a.res] ++ condCells l := rfl
    cases k with
    | zero => rw [e]; exact ⟨rfl, rfl, rfl⟩
    | succ k =>
      have hk : k < l.length := by simpa using h
      obtain ⟨h1, h2, h3⟩ := ih k hk
      rw [e, List.getElem_cons_succ]
      refine ⟨?_, ?_, ?_⟩
      · rw [List.getElem?_append_right (by simp; omega)]; simpa [show (k + 1) * 3 - 3 = k * 3 by omega] using h1
      · rw [List.getElem?_append_right (by simp; omega)]; simpa [show (k + 1) * 3 + 1 - 3 = k * 3 + 1 by omega] using h2
      · rw [List.getElem?_append_right (by simp; omega)]; simpa [show (k + 1) * 3 + 2 - 3 = k * 3 + 2 by omega] using h3
def DrewBool (b : Bool) (w : World) (e : Ending) (w' : World) : Prop := e = .returned (.bool b) ∧ ∃ n, w' = w.drewN n
set_option maxHeartbeats 4000000 in
theorem matchResult_any (w : World) (b : Nat) (v q e : Bool) (sv : Value) (list : List Cond) (id : Int) (hm : MatAt w b v q e sv) (hr : Row w (b + 1) 3 sv list.length (condCells list)) (hl : list.length ≤ 8589934592) :
    Calls Try.prog 38 #[.pointer (some ⟨b, 0, none⟩), .int .u64 id] w (DrewBool (matchL list id) w) := by
  have HM := Lib.hid hm
  have HR := Lib.hid hr
  obtain ⟨ao, cap, rfl⟩ := hr.shape
  obtain ⟨_, m0, m1, m2, m3⟩ := hm
  clear hr
  go_enter Try.func38, Try.ntmps38
  go_wp2
  go_loopw [5] (fun iv wr => ∃ k m : Nat, iv = .int .i64 ((k : Int) - 1) ∧ wr = w.drewN m ∧ k ≤ list.length ∧ Hid (matchTo list id k = matchL list id)) (fun iv _ => (intOf iv + 1).toNat)
  case atStart => exact ⟨list.length, 0, rfl, rfl, Nat.le_refl _, rfl⟩
  case round =>
    obtain ⟨k, m, rfl, rfl, hk, HK⟩ := hrel
    cases k with
    | zero =>
      go_wp2
      go_ret
      exact ⟨by rw [← HK.out]; rfl, m, rfl⟩
    | succ k =>
      obtain ⟨g, o, c2, hv, hB, hlt, hcap, hcm, hx⟩ := HR.out.at_ (by omega) (by omega)
      simp only [Value.slice.injEq] at hv
      obtain ⟨rfl, _, rfl⟩ := hv
      obtain ⟨e1, e2, e3⟩ := condCells_at list k (by omega)
      have x1 : w.cell? ⟨g, o + k * 3, none⟩ = some (.int .u64 list[k].mask) := (hx _ (by omega)).trans e1
      have x2 : w.cell? ⟨g, o + k * 3 + 1, none⟩ = some (.int .u64 list[k].bits) := (hx (k * 3 + 1) (by omega)).trans e2
      have x3 : w.cell? ⟨g, o + k * 3 + 2, none⟩ = some (.bool list[k].res) := (hx (k * 3 + 2) (by omega)).trans e3
      clear hx e1 e2 e3
      have hkk : list[k]? = some list[k] := List.getElem?_eq_getElem (by omega)
      have HS : Hid (matchL list id = if condB id list[k] then list[k].res else matchTo list id k) := by
        show _ = _
        rw [← HK.out, matchTo, hkk]
      clear hkk HK
      generalize list[k] = c at *
      cases hcb : (bits .and .u64 id c.mask == c.bits) with
      | true =>
        go_wp2
        go_quiet (fail)
        go_wp2
        go_ret
        exact ⟨by rw [HS.out, condB, hcb]; rfl, _, rfl⟩
      | false =>
        go_wp2
        go_quiet (fail)
        go_wp2
        go_roundw
        case rel => exact ⟨k, _, by go_num, rfl, by omega, by show _ = _; rw [HS.out, condB, hcb]; rfl⟩
        case measure => simp [intOf]
set_option maxHeartbeats 4000000 in
theorem shouldEnable_any (w : World) (b : Nat) (v q e : Bool) (sv : Value) (list : List Cond) (id : Int) (hm : MatAt w b v q e sv) (hr : Row w (b + 1) 3 sv list.length (condCells list)) (hl : list.length ≤ 8589934592) :
    Calls Try.prog 26 #[.pointer (some ⟨b, 0, none⟩), .int .u64 id] w (DrewBool (matchL list id == e) w) := by
  have HM := Lib.hid hm
  have HR := Lib.hid hr
  obtain ⟨_, m0, m1, m2, m3⟩ := hm
  clear hr
  go_enter Try.func26, Try.ntmps26
  go_wp2
  go_quiet ((go_at_call 38; exact Calls.quiet_of (v := .bool (matchL list id)) ((matchResult_any _ b v q e sv list id (HM.out.drewN _) (HR.out.drewN _) hl).mono fun _ _ h => h)))
  go_wp2
  go_ret
  exact ⟨rfl, _, rfl⟩
theorem shouldEnable_nil (w : World) (id : Int) :
    Calls Try.prog 26 #[.pointer none, .int .u64 id] w fun e w' => e = .returned (.bool true) ∧ w = w' := by
  go_enter Try.func26, Try.ntmps26
  go_wp2
  go_ret
  exact ⟨rfl, rfl⟩
theorem shouldPrint_nil (w : World) (id : Int) :
    Calls Try.prog 27 #[.pointer none, .int .u64 id] w fun e w' => e = .returned (.bool false) ∧ w = w' := by
  go_enter Try.func27, Try.ntmps27
  go_wp2
  go_ret
  exact ⟨rfl, rfl⟩
set_option maxHeartbeats 4000000 in
theorem shouldPrint_any (w : World) (b : Nat) (v q e : Bool) (sv : Value) (list : List Cond) (id : Int) (hm : MatAt w b v q e sv) (hr : Row w (b + 1) 3 sv list.length (condCells list)) (hl : list.length ≤ 8589934592) :
    Calls Try.prog 27 #[.pointer (some ⟨b, 0, none⟩), .int .u64 id] w (DrewBool (!q && matchL list id) w) := by
  have HM := Lib.hid hm
  have HR := Lib.hid hr
  obtain ⟨_, m0, m1, m2, m3⟩ := hm
  clear hr
  cases q with
  | true =>
    go_enter Try.func27, Try.ntmps27
    go_wp2
    go_ret
    exact ⟨rfl, 0, rfl⟩
  | false =>
    go_enter Try.func27, Try.ntmps27
    go_wp2_with fail
    refine (matchResult_any _ b v false e sv list id HM.out HR.out hl).mono ?_
    rintro e w' ⟨rfl, n, rfl⟩
    go_wp2
    go_ret
    exact ⟨rfl, n, rfl⟩
theorem markerOnly_any (w : World) (b : Nat) (v q e : Bool) (sv : Value) (hm : MatAt w b v q e sv) :
    Calls Try.prog 28 #[.pointer (some ⟨b, 0, none⟩)] w fun e w' => e = .returned (.bool (!v)) ∧ w = w' := by
  obtain ⟨_, m0, m1, m2, m3⟩ := hm
  go_enter Try.func28, Try.ntmps28
  go_wp2
  go_ret
  exact ⟨rfl, rfl⟩
end Go.Proofs.Ytnjdckhaecdldaa
