/-
  The contract of bisect.AppendMarker. For every row and every number.
-/
import Derived.Test.YtnjdckhaecdldaaProg
import Derived.Test.YtnjdckhaecdldaaBytes
import Derived.Test.YtnjdckhaecdldaaRow
import Derived.Lib.Hide
import Derived.Handy
import Derived.Lib.LazyBuf
import Derived.Lib.BufferWrite
import Derived.OpenShut
namespace Go.Proofs.Ytnjdckhaecdldaa
open Go.RowKit Go.PlainAid

def PFX : List UInt8 := [91, 98, 105, 115, 101, 99, 116, 45, 109, 97, 116, 99, 104, 32, 48, 120]
def HEX : List UInt8 := [48, 49, 50, 51, 52, 53, 54, 55, 56, 57, 97, 98, 99, 100, 101, 102]
/-- digit i of a number, the highest first -/
def dg (n i : Nat) : Nat := n / 16 ^ (15 - i) % 16
/-- byte j of a marker of which k digits are written -/
def mByte (n k j : Nat) : UInt8 := if j < 16 then PFX.getD j 0 else if j < 16 + k then HEX.getD (dg n (j - 16)) 0 else 0
def MC (n k : Nat) : Array Value := ((List.range 33).map fun j => Value.int .u8 ((mByte n k j).toNat : Int)).toArray
def marker (n : Nat) : ByteArray := mkB ((List.range 33).map fun j => if j < 32 then mByte n 16 j else 93)

theorem MC_size (n k : Nat) : (MC n k).size = 33 := by simp [MC]
theorem MC_get (n k j : Nat) (h : j < 33) : (MC n k)[j]? = some (.int .u8 ((mByte n k j).toNat : Int)) := by
  simp [MC, List.getElem?_range h]
theorem MC_set (n k : Nat) (hk : k < 16) : (MC n k).setIfInBounds (16 + k) (.int .u8 ((HEX.getD (dg n k) 0).toNat : Int)) = MC n (k + 1) := by
  apply Array.ext_getElem?
  intro j
  rw [Array.getElem?_setIfInBounds]
  by_cases hj : j < 33
  · rw [MC_get n (k + 1) j hj]
    split
    · rename_i e
      subst e
      rw [if_pos (by rw [MC_size]; omega)]
      unfold mByte
      rw [if_neg (by omega), if_pos (by omega), show 16 + k - 16 = k by omega]
    · rename_i e
      rw [MC_get n k j hj]
      unfold mByte
      by_cases h1 : j < 16
      · rw [if_pos h1, if_pos h1]
      · rw [if_neg h1, if_neg h1]
        by_cases h2 : j < 16 + k
        · rw [if_pos h2, if_pos (by omega)]
        · rw [if_neg h2, if_neg (by omega)]
  · rw [Array.getElem?_eq_none (by rw [MC_size]; omega), if_neg (by omega), Array.getElem?_eq_none (by rw [MC_size]; omega)]
theorem MC_last (n : Nat) : (MC n 16).setIfInBounds 32 (.int .u8 93) = (byteCells (marker n)).toArray := by
  apply Array.ext_getElem?
  intro j
  have e0 : ((byteCells (marker n)).toArray)[j]? = ((L (marker n)).map fun b => Value.int .u8 (b.toNat : Int))[j]? := List.getElem?_toArray
  rw [Array.getElem?_setIfInBounds, e0, marker, L_mkB, List.getElem?_map, List.getElem?_map]
  by_cases hj : j < 33
  · rw [List.getElem?_range hj]
    split
    · rename_i e
      subst e
      rw [if_pos (by rw [MC_size]; omega)]
      rfl
    · rename_i e
      rw [MC_get n 16 j hj]
      show _ = some (Value.int .u8 (((if j < 32 then mByte n 16 j else 93).toNat : Nat) : Int))
      rw [if_pos (by omega)]
  · rw [List.getElem?_eq_none (by simp; omega), if_neg (by omega), Array.getElem?_eq_none (by rw [MC_size]; omega)]; rfl
theorem size_marker (n : Nat) : (marker n).size = 33 := by rw [marker, size_mkB]; simp
theorem shl4 (n k : Nat) : n * 16 ^ k % 18446744073709551616 * 16 % 18446744073709551616 = n * 16 ^ (k + 1) % 18446744073709551616 := by
  rw [Nat.pow_succ, ← Nat.mul_assoc, Nat.mod_mul_mod]
theorem top4 (n k : Nat) (hk : k < 16) : n * 16 ^ k % 18446744073709551616 / 1152921504606846976 = dg n k := by
  unfold dg
  have e : (18446744073709551616 : Nat) = 16 ^ (16 - k) * 16 ^ k := by rw [← Nat.pow_add, show 16 - k + k = 16 by omega]
  have e2 : (1152921504606846976 : Nat) = 16 ^ (15 - k) * 16 ^ k := by rw [← Nat.pow_add, show 15 - k + k = 15 by omega]
  rw [e, Nat.mul_mod_mul_right, e2, Nat.mul_div_mul_right _ _ (Nat.pow_pos (by omega)), show 16 - k = 15 - k + 1 by omega, Nat.pow_succ, Nat.mod_mul_right_div_self]

theorem setRow_alloc (w : World) (c cs : Array Value) (t : TypeId) (fr : Nat × Nat) : (w.alloc (.cells c t fr)).setRow w.heap.size cs = w.alloc (.cells cs t fr) := by
  have hs : (w.alloc (.cells c t fr)).heap = w.heap.push (.cells c t fr) := rfl
  have h2 : (w.alloc (.cells cs t fr)).heap = w.heap.push (.cells cs t fr) := rfl
  have e : ((w.alloc (.cells c t fr)).setRow w.heap.size cs).heap = (w.alloc (.cells cs t fr)).heap := by
    rw [h2]
    apply Array.ext_getElem?
    intro j
    show ((w.alloc (.cells c t fr)).heap.modify w.heap.size _)[j]? = _
    rw [hs, Array.getElem?_modify, Array.getElem?_push, Array.getElem?_push]
    by_cases h : w.heap.size = j
    · subst h; simp
    · rw [if_neg h, if_neg (fun e => h e.symm), if_neg (fun e => h e.symm)]
  show World.setRow _ _ _ = _
  have e3 : (w.alloc (.cells c t fr)).setRow w.heap.size cs = { w.alloc (.cells cs t fr) with heap := ((w.alloc (.cells c t fr)).setRow w.heap.size cs).heap } := rfl
  rw [e3, e]
theorem infoU8 : (Try.prog.info? 5).map (fun i => (i.zero, i.size, i.bytes)) = some (some (.int .u8 0), 1, 1) := by kernel_rfl
theorem copy_pfx (w : World) : (Builtin.copy_ #[54, 9] 3 #[.slice (some ⟨w.heap.size, 0, none⟩) 33 33, .string { data := #[91, 98, 105, 115, 101, 99, 116, 45, 109, 97, 116, 99, 104, 32, 48, 120] }]).run Try.prog
    (w.alloc (.cells #[.int .u8 0, .int .u8 0, .int .u8 0, .int .u8 0, .int .u8 0, .int .u8 0, .int .u8 0, .int .u8 0, .int .u8 0, .int .u8 0, .int .u8 0, .int .u8 0, .int .u8 0, .int .u8 0, .int .u8 0, .int .u8 0, .int .u8 0, .int .u8 0, .int .u8 0, .int .u8 0, .int .u8 0, .int .u8 0, .int .u8 0, .int .u8 0, .int .u8 0, .int .u8 0, .int .u8 0, .int .u8 0, .int .u8 0, .int .u8 0, .int .u8 0, .int .u8 0, .int .u8 0] 101))
    = .ok (goInt 16) (w.alloc (.cells (MC 0 0) 101)) := by
  have hu : Try.prog.underlying 54 = some (.slice 5) := Try.underlying54
  obtain ⟨i0, hi, _, hz1, _⟩ := info_parts infoU8
  rw [Lib.run_copy_row_string (P := Try.prog) _ 54 9 3 5 w.heap.size 0 33 33 _ _ 101 hu (by rw [hi]; simp [hz1]) (heap_alloc_new w _) (by decide) (by decide)]
  rw [setRow_alloc]
  rfl
theorem int_eq' {k : IntKind} {a b : Int} (h : a = b) : Value.int k a = .int k b := by rw [h]
theorem byteCells_one (s : ByteArray) : ∀ u ∈ byteCells s, u.oneCell' = true := by
  intro u hu
  obtain ⟨_, _, rfl⟩ := List.mem_map.1 hu
  rfl
theorem marker_cells {w : World} {n : Nat} {c : Array Value} {t : TypeId} (h : c = (byteCells (marker n)).toArray) : ∀ j u, (byteCells (marker n))[j]? = some u → (w.alloc (.cells c t)).cell? ((⟨w.heap.size, 0, none⟩ : Addr).add j) = some u := by
  intro j u hu
  rw [Addr.add_lit, Nat.zero_add, cell_of_row _ _ _ _ _ _ (heap_alloc_new w _), h, List.getElem?_toArray]; exact hu
def AppPost (n : Nat) (s : ByteArray) (B : Nat) (v : Value) (w : World) (e : Ending) (w' : World) : Prop :=
  ∃ v', e = .returned v' ∧ Row w' B 1 v' (s ++ marker n).size (byteCells (s ++ marker n)) ∧ w.grownBy w' v.ownBlock ∧ (v'.ownBlock = v.ownBlock ∨ ∃ g, v'.ownBlock = some g ∧ w.heap.size ≤ g)

set_option maxRecDepth 100000 in
theorem appendMarker_any (n : Nat) (hn : n < 18446744073709551616) (s : ByteArray) (B : Nat) (v : Value) (w : World) (hr : Row w B 1 v s.size (byteCells s)) (hB : B ≤ w.heap.size) (hs : s.size ≤ 4294967296) :
    Calls Try.prog 39 #[v, .int .u64 (n : Int)] w (AppPost n s B v w) := by
  obtain ⟨i0, hi, hz0, hz1, hz2⟩ := info_parts infoU8
  have hcp := copy_pfx
  have HN := Lib.hid hn
  have HR := Lib.hid hr
  clear hn hr
  have hE : MC 0 0 = MC n 0 := by
    unfold MC; congr 2; funext j; unfold mByte
    by_cases h : j < 16
    · rw [if_pos h, if_pos h]
    · rw [if_neg h, if_neg h, if_neg (by omega), if_neg (by omega)]
  have HE := Lib.hid hE
  clear hE
  go_enter Try.func39, Try.ntmps39
  go_wp2
  go_loopw [1, 6] (fun dv iv wr => ∃ (k m : Nat) (cs : Array Value), iv = .int .i64 k ∧ k ≤ 16 ∧ dv = .int .u64 (m : Int) ∧ wr = w.alloc (.cells cs 101) ∧ Hid (cs = MC n k) ∧ Hid (m = n * 16 ^ k % 18446744073709551616)) (fun _ iv _ => 16 - (intOf iv).toNat)
  case atStart => exact ⟨0, n, MC 0 0, rfl, by omega, rfl, rfl, HE, by show n = _; rw [Nat.pow_zero, Nat.mul_one, Nat.mod_eq_of_lt HN.out]⟩
  case round =>
    obtain ⟨k, m, cs, rfl, hk, rfl, rfl, HC, HM⟩ := hrel
    have hb := get_bt { data := #[48, 49, 50, 51, 52, 53, 54, 55, 56, 57, 97, 98, 99, 100, 101, 102] }
    by_cases hlt : k < 16
    · have ht := top4 n k hlt
      rw [← HM.out] at ht
      have hd : m / 1152921504606846976 < 16 := by rw [ht]; exact Nat.mod_lt _ (by omega)
      have HT := Lib.hid ht
      clear ht
      have hc : (w.alloc (.cells cs 101)).cell? ⟨w.heap.size, 16 + k, none⟩ = some (.int .u8 ((mByte n k (16 + k)).toNat : Int)) := by
        rw [cell_of_row _ _ _ _ _ _ (heap_alloc_new w _), HC.out, MC_get n k _ (by omega)]
      have hd2 : (m : Int) / 1152921504606846976 < 16 := by omega
      go_wp2
      go_roundw
      case rel =>
        refine ⟨k + 1, m * 16 % 18446744073709551616, _, by go_num, by omega, int_eq' (by rw [IntKind.wrap_u64]; omega), rfl, ?_, ?_⟩
        · show _ = _
          rw [bt_getD, HT.out, ← MC_set n k hlt, HC.out]; rfl
        · show _ = _
          rw [HM.out, shl4]
      case measure => simp [intOf]; omega
    · obtain rfl : k = 16 := by omega
      clear hb
      have hc : (w.alloc (.cells cs 101)).cell? ⟨w.heap.size, 32, none⟩ = some (.int .u8 ((mByte n 16 32).toNat : Int)) := by
        rw [cell_of_row _ _ _ _ _ _ (heap_alloc_new w _), HC.out, MC_get n 16 _ (by omega)]
      have hml : (byteCells (marker n)).length = 33 := by rw [byteCells_length, size_marker]
      have HML := Lib.hid hml
      have HL := Lib.hid (MC_last n)
      rw [← HC.out] at HL
      clear hml
      have m1 : s.size + 33 ≤ maxLen := by unfold maxLen; omega
      have m2 : (s.size + 33) * 1 ≤ 140737488355328 := by omega
      have m3 : B ≤ (w.alloc (.cells (cs.setIfInBounds 32 (.int .u8 93)) 101)).heap.size := by simp; omega
      go_wp2_with (at_builtin; refine wpList_append_row _ rfl (.tmp 22) (.tmp 23) 54 54 rfl B 5 i0 (.int .u8 0) 1 1 Try.underlying54 hi hz0 hz1 hz2 rfl _ _ _ (HR.out.alloc _) rfl _ 33 (byteCells (marker n)) (Src.ofSlice _ Try.underlying54 ⟨w.heap.size, 0, none⟩ 33 33 _ HML.out (marker_cells HL.out) (byteCells_one _)) rfl m1 m2 m3 ?_; intro v' w' h1 h2 h3)
      go_ret
      refine ⟨v', rfl, ?_, ?_, ?_⟩
      · rw [ByteArray.size_append, size_marker, byteCells_append]; exact h1
      · exact ⟨h2.os, h2.tape, h2.output, by have := h2.size; simp at this; omega, fun j hj hne => (h2.block j (by simp; omega) hne).trans (Below.heap_alloc w _ j hj)⟩
      · rcases h3 with h3 | h3
        · exact .inl h3
        · exact .inr ⟨_, h3, by simp⟩
end Go.Proofs.Ytnjdckhaecdldaa
