/-
  The contracts of spec.Ends and (spec.Pattern).Holds. For every bit string of at most 60 bytes.
-/
import Derived.Test.YtelmpgonfcgjnaaTerms
import Derived.Test.YtelmpgonfcgjnaaBitPlain
import Derived.Deep.QuietTactic
import Derived.BigQuiet
set_option linter.unusedVariables false
namespace Go.Proofs.Ytelmpgonfcgjnaa
open Go.RowKit Go.PlainAid Go.Lib

theorem rB {a b : Bool} (h : a = b) : Ending.returned (.bool a) = .returned (.bool b) := by rw [h]
def DrewB (b : Bool) (w : World) (e : Ending) (w' : World) : Prop := e = .returned (.bool b) ∧ ∃ n, w' = w.drewN n
theorem ends_all {id : Int} {s : ByteArray} (h : ∀ q, q < s.size → bitAt id s.size q = bt s q) : endsB id (L s) = true := by
  simp only [endsB, Bool.or_eq_true, List.all_eq_true, List.mem_range, beq_iff_eq, L_len]
  exact .inr fun k hk => by rw [h k hk, bt_getD]
theorem ends_not {id : Int} {s : ByteArray} {k : Nat} (hk : k < s.size) (hy : L s ≠ [121]) (h : bitAt id s.size k ≠ bt s k) : endsB id (L s) = false := by
  rw [Bool.eq_false_iff]
  intro h2
  simp only [endsB, decide_eq_false hy, Bool.false_or, List.all_eq_true, List.mem_range, beq_iff_eq, L_len] at h2
  exact h (by rw [h2 k hk, bt_getD])
set_option maxHeartbeats 4000000 in
theorem ends_any (id : Int) (s : ByteArray) (w : World) (hs : s.size ≤ 60) (h0 : 0 ≤ id) (h1 : id ≤ 18446744073709551615) : Calls Try.prog 32 #[.int .u64 id, .string s] w (DrewB (endsB id (L s)) w) := by
  have hb := get_bt s
  cases hy : (s.toList == (⟨#[121]⟩ : ByteArray).toList) with
  | true =>
    have HY : Hid (s = ⟨#[121]⟩) := beq_str.1 hy
    rw [show (⟨#[121]⟩ : ByteArray).toList = [121] by rw [toList_L]; rfl] at hy
    go_enter Try.func32, Try.ntmps32
    go_wp2
    go_ret
    exact ⟨rB (by rw [HY.out, show L ⟨#[121]⟩ = [121] from rfl, endsB_y]), 0, rfl⟩
  | false =>
    have HY : Hid (L s ≠ [121]) := fun h => by
      have : s = ⟨#[121]⟩ := L_inj h
      rw [beq_str.2 this] at hy; cases hy
    rw [show (⟨#[121]⟩ : ByteArray).toList = [121] by rw [toList_L]; rfl] at hy
    go_enter Try.func32, Try.ntmps32
    go_wp2
    go_loopw [10] (fun iv wr => ∃ k m : Nat, iv = .int .i64 k ∧ wr = w.drewN m ∧ k ≤ s.size ∧ Hid (∀ q, q < k → bitAt id s.size q = bt s q)) (fun iv _ => s.size - (intOf iv).toNat)
    case atStart => exact ⟨0, 0, rfl, rfl, Nat.zero_le _, fun q h => absurd h (by omega)⟩
    case round =>
      obtain ⟨k, m, rfl, rfl, hk, HQ⟩ := hrel
      by_cases hlt : k < s.size
      · have HE : Hid (bitAt id s.size k = IntKind.u64.wrap (48 + bits BinOp.and IntKind.u64 (id / 2 ^ (s.size - 1 - k)) 1) % 256) := rfl
        cases ht : (IntKind.u64.wrap (48 + bits BinOp.and IntKind.u64 (id / 2 ^ (s.size - 1 - k)) 1) % 256 != bt s k) with
        | true =>
          have HN : Hid (bitAt id s.size k ≠ bt s k) := by show _ ≠ _; rw [HE.out]; simpa using ht
          go_wp2
          go_quiet (fail)
          go_wp2
          go_ret
          exact ⟨rB (ends_not hlt HY.out (HN.out)).symm, _, World.drewN_drewN _ _ _⟩
        | false =>
          have HN : Hid (bitAt id s.size k = bt s k) := by show _ = _; rw [HE.out]; simpa using ht
          go_wp2
          go_quiet (fail)
          go_wp2
          go_roundw
          case rel => exact ⟨k + 1, _, by go_num, rfl, by omega, (fun q hq => by
            rcases Nat.lt_succ_iff_lt_or_eq.1 hq with h | h
            · exact HQ.out q h
            · subst h; exact HN.out)⟩
          case measure => simp [intOf]; omega
      · go_wp2
        go_ret
        exact ⟨rB (ends_all fun q hq => HQ.out q (by omega)).symm, _, rfl⟩

/-- what spec.Holds tells -/
def holdsTo (id : Int) (all : Bool) (ts : List (Bs × Bool)) : Bool := ts.foldl (fun i t => if endsB id t.1 then t.2 else i) all
theorem holds_snoc (id : Int) (all : Bool) (ts : List (Bs × Bool)) (t : Bs × Bool) : holdsTo id all (ts ++ [t]) = if endsB id t.1 then t.2 else holdsTo id all ts := by simp [holdsTo]
theorem termCells_at (l : List (Bs × Bool)) (k : Nat) (h : k < l.length) : (termCells l)[k * 2]? = some (S l[k].1) ∧ (termCells l)[k * 2 + 1]? = some (.bool l[k].2) := by
  induction l generalizing k with
  | nil => simp at h
  | cons a l ih =>
    have e : termCells (a :: l) = [S a.1, .bool a.2] ++ termCells l := rfl
    cases k with
    | zero => rw [e]; exact ⟨rfl, rfl⟩
    | succ k =>
      have hk : k < l.length := by simpa using h
      obtain ⟨h1, h2⟩ := ih k hk
      rw [e, List.getElem_cons_succ]
      refine ⟨?_, ?_⟩
      · rw [List.getElem?_append_right (by simp; omega)]; simpa [show (k + 1) * 2 - 2 = k * 2 by omega] using h1
      · rw [List.getElem?_append_right (by simp; omega)]; simpa [show (k + 1) * 2 + 1 - 2 = k * 2 + 1 by omega] using h2
def HoldsPost (b : Bool) (w : World) (e : Ending) (w' : World) : Prop := e = .returned (.bool b) ∧ Below w.heap.size w w'
set_option maxHeartbeats 4000000 in
theorem holds_any (id : Int) (d v all : Bool) (sv : Value) (ts : List (Bs × Bool)) (B : Nat) (w : World) (hr : Row w B 2 sv ts.length (termCells ts)) (hts : ∀ t ∈ ts, isBitsL t.1) (hl : ts.length ≤ 8589934592) (h0 : 0 ≤ id) (h1 : id ≤ 18446744073709551615) :
    Calls Try.prog 25 #[.agg #[.bool d, .bool v, .bool all, sv], .int .u64 id] w (HoldsPost (holdsTo id all ts) w) := by
  have HR := Lib.hid hr
  have HTS := Lib.hid hts
  obtain ⟨ao, cap, rfl⟩ := hr.shape
  clear hr hts
  go_enter Try.func25, Try.ntmps25
  go_wp2
  go_loopw [5, 13] (fun nv iv wr => ∃ k : Nat, iv = .int .i64 k ∧ nv = .bool (holdsTo id all (ts.take k)) ∧ k ≤ ts.length ∧ Hid (Below w.heap.size w wr) ∧ Hid (Row wr B 2 (.slice ao ts.length cap) ts.length (termCells ts))) (fun _ iv _ => ts.length - (intOf iv).toNat)
  case atStart => exact ⟨0, rfl, rfl, Nat.zero_le _, (Below.refl _ _).alloc (Nat.le_refl _) _, HR.out.alloc _⟩
  case round =>
    obtain ⟨k, rfl, rfl, hk, HB, HR⟩ := hrel
    by_cases hlt : k < ts.length
    · obtain ⟨g, o, c2, hv, hB, hgl, hcap, hcm, hx⟩ := HR.out.at_ (by omega) (by omega)
      simp only [Value.slice.injEq] at hv
      obtain ⟨rfl, _, rfl⟩ := hv
      obtain ⟨e1, e2⟩ := termCells_at ts k hlt
      have x1 : wr.cell? ⟨g, o + k * 2, none⟩ = some (S ts[k].1) := (hx _ (by omega)).trans e1
      have x2 : wr.cell? ⟨g, o + k * 2 + 1, none⟩ = some (.bool ts[k].2) := (hx (k * 2 + 1) (by omega)).trans e2
      have HBT := Lib.hid (HTS.out ts[k] (List.getElem_mem hlt))
      have HSN : Hid (holdsTo id all (ts.take (k + 1)) = if endsB id ts[k].1 then ts[k].2 else holdsTo id all (ts.take k)) := by
        show _ = _
        rw [List.take_succ_eq_append_getElem hlt, holds_snoc]
      clear hx e1 e2
      generalize ts[k] = t at *
      unfold S at x1
      have hsz : (mkB t.1).size ≤ 60 := by rw [size_mkB]; exact (isBits_len HBT.out).2
      go_wp2_with fail
      refine (ends_any id (mkB t.1) _ hsz h0 h1).mono ?_
      rintro e w1 ⟨rfl, n, rfl⟩
      rw [L_mkB]
      cases he : endsB id t.1 with
      | true =>
        go_wp2
        go_roundw
        case rel => exact ⟨k + 1, by go_num, by rw [HSN.out, he]; rfl, by omega, below_drewN (HB.out.alloc HB.out.size _) n, (HR.out.alloc _).drewN n⟩
        case measure => simp [intOf]; omega
      | false =>
        go_wp2
        go_roundw
        case rel => exact ⟨k + 1, by go_num, by rw [HSN.out, he]; rfl, by omega, below_drewN (HB.out.alloc HB.out.size _) n, (HR.out.alloc _).drewN n⟩
        case measure => simp [intOf]; omega
    · go_wp2
      go_ret
      exact ⟨rB (by rw [List.take_of_length_le (by omega)]), HB.out⟩
end Go.Proofs.Ytelmpgonfcgjnaa
