/-
  Plain facts on the last bits of a number as a text, and the contracts of spec.Mod and spec.BitsOf.
-/
import Derived.Test.YtnjdckhaecdldaaPatGood
import Derived.Test.YtnjdckhaecdldaaLong
import Derived.OpenShut
import Derived.OwnWalk
import Derived.Laws.OwnMore
import Derived.Lib.ConvBytes
set_option linter.unusedVariables false
set_option maxHeartbeats 2000000
set_option maxRecDepth 100000
namespace Go.Proofs.Ytnjdckhaecdldaa
open Go.RowKit Go.PlainAid Go.Lib

/-- bit k of the last n bits, as a digit -/
def digN (N n k : Nat) : Nat := 48 + N / 2 ^ (n - 1 - k) % 2
def bitsN (N n : Nat) : Bs := (List.range n).map fun k => UInt8.ofNat (digN N n k)
theorem digN_is (N n k : Nat) : digN N n k = 48 ∨ digN N n k = 49 := by unfold digN; omega
theorem u8_digN (N n k : Nat) : (UInt8.ofNat (digN N n k)).toNat = digN N n k := by
  rcases digN_is N n k with h | h <;> rw [h] <;> rfl
theorem bitsN_len (N n : Nat) : (bitsN N n).length = n := by simp [bitsN]
theorem bitsN_at (N n k : Nat) (h : k < n) : (bitsN N n).getD k 0 = UInt8.ofNat (digN N n k) := by
  rw [List.getD, List.getElem?_eq_getElem (by rw [bitsN_len]; exact h)]
  simp [bitsN]
/-- the digit of place q turned round -/
def flip (l : Bs) (q : Nat) : Bs := l.set q (if l.getD q 0 = 48 then 49 else 48)
theorem bin_bitsN (N n : Nat) : ∀ c ∈ bitsN N n, c = 48 ∨ c = 49 := by
  intro c hc
  unfold bitsN at hc
  obtain ⟨k, _, rfl⟩ := List.mem_map.1 hc
  rcases digN_is N n k with h | h <;> rw [h]
  · exact .inl rfl
  · exact .inr rfl
theorem bits_ok {l : Bs} (h1 : 1 ≤ l.length) (h2 : l.length ≤ 60) (h : ∀ c ∈ l, c = 48 ∨ c = 49) : isBitsL l ∧ l ≠ [121] := by
  refine ⟨.inr ⟨h1, h2, h⟩, fun e => ?_⟩
  have := h 121 (by rw [e]; simp)
  rcases this with h | h <;> cases h
theorem judge_one {l : Bs} (hb : isBitsL l) (N : Nat) (hN : N < 18446744073709551616) : judge l (N : Int) = ⟨true, false, endsB (N : Int) l, endsB (N : Int) l, true⟩ := by
  have hr : ReadTerms l false [(l, true)] := by
    refine .inr (.inr ⟨rfl, Terms.last hb⟩)
  rw [judge_terms hr N hN]
  simp [holdsTo]
theorem last_yes (N n : Nat) (hN : N < 18446744073709551616) (h1 : 1 ≤ n) (h2 : n ≤ 60) : judge (bitsN N n) (N : Int) = ⟨true, false, true, true, true⟩ := by
  obtain ⟨hb, hy⟩ := bits_ok (by rw [bitsN_len]; exact h1) (by rw [bitsN_len]; exact h2) (bin_bitsN N n)
  rw [judge_one hb N hN]
  have : endsB (N : Int) (bitsN N n) = true := by
    unfold endsB
    rw [Bool.or_eq_true]
    refine .inr (List.all_eq_true.2 fun k hk => ?_)
    rw [bitsN_len] at hk ⊢
    rw [List.mem_range] at hk
    rw [bitsN_at N n k hk, u8_digN, bitAt_nat N n k hN, beq_iff_eq]
    rfl
  rw [this]
theorem last_no (N n q : Nat) (hN : N < 18446744073709551616) (h1 : 1 ≤ n) (h2 : n ≤ 60) (hq : q < n) : judge (flip (bitsN N n) q) (N : Int) = ⟨true, false, false, false, true⟩ := by
  have hl : (flip (bitsN N n) q).length = n := by unfold flip; rw [List.length_set, bitsN_len]
  have hbin : ∀ c ∈ flip (bitsN N n) q, c = 48 ∨ c = 49 := by
    intro c hc
    unfold flip at hc
    rcases List.mem_or_eq_of_mem_set hc with h | h
    · exact bin_bitsN N n c h
    · rw [h]; split
      · exact .inr rfl
      · exact .inl rfl
  obtain ⟨hb, hy⟩ := bits_ok (by rw [hl]; exact h1) (by rw [hl]; exact h2) hbin
  rw [judge_one hb N hN]
  have : endsB (N : Int) (flip (bitsN N n) q) = false := by
    rw [Bool.eq_false_iff]
    intro h
    unfold endsB at h
    rw [Bool.or_eq_true] at h
    rcases h with h | h
    · exact hy (by simpa using h)
    · have := List.all_eq_true.1 h q (List.mem_range.2 (by rw [hl]; exact hq))
      rw [hl, bitAt_nat N n q hN, beq_iff_eq] at this
      have hx : (flip (bitsN N n) q).getD q 0 = if (bitsN N n).getD q 0 = 48 then 49 else 48 := by
        unfold flip
        rw [List.getD, List.getElem?_set_self (by rw [bitsN_len]; exact hq)]; rfl
      rw [hx, bitsN_at N n q hq] at this
      have hd : digN N n q = 48 + N / 2 ^ (n - 1 - q) % 2 := rfl
      rcases digN_is N n q with h | h
      · rw [h] at this
        rw [← hd, h] at this
        exact absurd this (by decide)
      · rw [h] at this
        rw [← hd, h] at this
        exact absurd this (by decide)
  rw [this]

def MPost (v : Value) (w : World) (e : Ending) (w' : World) : Prop := e = .returned v ∧ w = w'
theorem mod_any (i n : Int) (w : World) (hi : (Lit.int .i64 i).wf = true) (h1 : 1 ≤ n) (h2 : n ≤ 60) : Calls Try.prog 19 #[.int .i64 i, .int .i64 n] w (MPost (.int .i64 ((i.tmod n + n) % n)) w) := by
  obtain ⟨i1, i2⟩ := bounds_i64 hi
  have t1 : i.tmod n < n := Int.tmod_lt_of_pos i (by omega)
  have t2 : -n < i.tmod n := by
    have := Int.tmod_lt_of_pos (-i) (show 0 < n by omega)
    rw [Int.neg_tmod] at this
    omega
  go_enter Try.func19, Try.ntmps19
  go_wp2
  go_ret
  exact ⟨rfl, rfl⟩
theorem mod_nat (i : Int) (n : Nat) (h : 1 ≤ n) : ∃ q : Nat, q < n ∧ (i.tmod n + n) % n = (q : Int) := by
  have h0 : 0 ≤ (i.tmod n + n) % (n : Int) := Int.emod_nonneg _ (by omega)
  have h1 : (i.tmod n + n) % (n : Int) < n := Int.emod_lt_of_pos _ (by omega)
  obtain ⟨q, hq⟩ := Int.eq_ofNat_of_zero_le h0
  exact ⟨q, by omega, hq⟩
/-- the cells while the text is laid -/
def bcs (N n k : Nat) : List Value := (List.range n).map fun j => Value.int .u8 (if j < k then (digN N n j : Int) else 0)
theorem bcs_len (N n k : Nat) : (bcs N n k).length = n := by simp [bcs]
theorem bcs_zero (N n : Nat) : (madeCells (Value.int .u8 0).cells (n * 1)).toList = bcs N n 0 := by
  apply List.ext_getElem
  · simp [madeCells, bcs]
  · intro j h1 h2
    simp [madeCells, bcs, Value.cells]
    rw [Nat.mod_one]; rfl
theorem bcs_set (N n k : Nat) (hk : k < n) : (bcs N n k).set k (.int .u8 (digN N n k : Int)) = bcs N n (k + 1) := by
  apply List.ext_getElem
  · simp [bcs]
  · intro j h1 h2
    rw [List.getElem_set]
    simp only [bcs, List.getElem_map, List.getElem_range]
    by_cases hj : k = j
    · subst hj; simp
    · rw [if_neg hj]
      congr 1
      by_cases h : j < k
      · rw [if_pos h, if_pos (by omega)]
      · rw [if_neg h, if_neg (by omega)]
theorem bcs_all (N n : Nat) : bcs N n n = byteCells (mkB (bitsN N n)) := by
  unfold bcs byteCells mkB bitsN
  simp only [List.map_map]
  apply List.map_congr_left
  intro j hj
  rw [List.mem_range] at hj
  simp only [Function.comp, if_pos hj, u8_digN]
theorem infoB8 : (Try.prog.info? 5).map (fun i => (i.zero, i.size, i.bytes)) = some (some (.int .u8 0), 1, 1) := by kernel_rfl
def BPost (t : ByteArray) (w : World) (e : Ending) (w' : World) : Prop := e = .returned (.string t) ∧ Below w.heap.size w w'
theorem bitsOf_any (N n : Nat) (w : World) (hN : N < 18446744073709551616) (h1 : 1 ≤ n) (h2 : n ≤ 60) : Calls Try.prog 20 #[.int .u64 (N : Int), .int .i64 (n : Int)] w (BPost (mkB (bitsN N n)) w) := by
  obtain ⟨i0, hi, hz0, hz1, hz2⟩ := info_parts infoB8
  have HN := Lib.hid hN
  clear hN
  have b2 : i0.bytes * n ≤ 281474976710656 := by rw [hz2]; omega
  have b3 : n ≤ maxLen := by unfold maxLen; omega
  go_enter Try.func20, Try.ntmps20
  go_wp2_with (with_reducible refine wpList_make_full w rfl (.tmp 7) (.tmp 7) 54 rfl w.heap.size 5 i0 (.int .u8 0) 1 Try.underlying54 hi hz0 hz1 .i64 .i64 (n : Int) (n : Int) n rfl rfl rfl rfl b2 b3 (Nat.le_refl _) ?_; intro w1 k1 k2; rw [bcs_zero N n] at k1; have K1 := Lib.hid k1; have K2 := Lib.hid k2; clear k1 k2)
  go_loopw [11] (fun iv wr => ∃ k : Nat, iv = .int .i64 k ∧ k ≤ n ∧ Hid (wr.ownsRow w.heap.size 5 1 (.slice (some ⟨w.heap.size, 0, none⟩) n n) n (bcs N n k) ∧ Below w.heap.size w wr)) (fun iv _ => n - (intOf iv).toNat)
  case atStart => exact ⟨0, rfl, Nat.zero_le _, K1.out, (Below.refl _ _).grown K2.out (Nat.le_refl _) (fun g hg => by cases hg)⟩
  case round =>
    clear K1 K2
    obtain ⟨k, rfl, hk, HR⟩ := hrel
    by_cases hlt : k < n
    · have HBA : Hid (IntKind.u64.wrap (48 + bits BinOp.and IntKind.u64 ((N : Int) / 2 ^ (n - 1 - k)) 1) % 256 = (digN N n k : Int)) := bitAt_nat N n k HN.out
      have hst := HR.out.1.stored k (.int .u8 (digN N n k : Int))
      have hc := HR.out.1.cellAt k (by omega)
      rw [List.getElem?_eq_getElem (by rw [bcs_len]; exact hlt)] at hc
      have hf := HR.out.1.frozenAt k
      rw [bcs_set N n k hlt] at hst
      have HST := Lib.hid hst
      clear hst
      have hsh : ((n : Int) - 1 - (k : Int)).toNat = n - 1 - k := by omega
      go_wp2
      go_roundw
      case rel =>
        refine ⟨k + 1, by go_num, by omega, ?_⟩
        show _ ∧ _
        rw [HBA.out]
        exact ⟨HST.out.1, HR.out.2.grown HST.out.2 HR.out.2.size (fun g hg => by cases hg; exact Nat.le_refl _)⟩
      case measure => simp [intOf]; omega
    · obtain rfl : k = n := by omega
      have hr := Row.own HR.out.1
      rw [bcs_all] at hr
      have hln : (mkB (bitsN N k)).size = k := by rw [size_mkB, bitsN_len]
      have hcv := run_string_row wr Try.underlying54 Try.underlying5 (s := mkB (bitsN N k)) (by rw [hln]; exact hr) 9 Try.underlying9
      clear hr
      go_wp2
      go_ret
      exact ⟨rfl, HR.out.2⟩
end Go.Proofs.Ytnjdckhaecdldaa
