/-
  Plain laws on the machine's steps, class by class of bytes. No program in sight.
-/
import Derived.Test.YtnjdckhaecdldaaMat
namespace Go.Proofs.Ytnjdckhaecdldaa
open Go.RowKit Go.PlainAid Go.Lib

theorem byte_at (p : ByteArray) (i : Nat) (h : i < p.size) : ∃ c : UInt8, (L p)[i]? = some c ∧ bt p i = (c.toNat : Int) ∧ (L p).getD i 45 = c := by
  have hl : i < (L p).length := by rw [L_len]; exact h
  exact ⟨(L p)[i], List.getElem?_eq_getElem hl, bt_L p i h, by rw [List.getD, List.getElem?_eq_getElem hl]; rfl⟩
theorem ra_next {P : Bs} {i : Nat} {st : PSt} {R : Option PSt} {c : UInt8} {n : Option UInt8} {res : Bool} {bits : Int} {seg : Bs} {wid : Nat} {list : List Cond} (hra : runAt P i st = R) (hst : runAt P i st = (stepP c n st).bind (runAt P (i + 1)))
    (hs : stepP c n st = some ⟨res, bits, seg, wid, true, list⟩) : runAt P (i + 1) ⟨res, bits, seg, wid, decide (0 < i + 1), list⟩ = R := by
  rw [show decide (0 < i + 1) = true by simp, ← hra, hst, hs]; rfl
theorem push_len {seg : Bs} {i a : Nat} {c : UInt8} (h : seg.length = i - a) (hai : a ≤ i) : (seg ++ [c]).length = i + 1 - a := by
  rw [List.length_append, h]; simp; omega
theorem push_head {P seg : Bs} {i a : Nat} {c : UInt8} (hl : seg.length = i - a) (hai : a ≤ i) (hh : a < i → seg.head? = P[a]?) (hc : P[i]? = some c) : a < i + 1 → (seg ++ [c]).head? = P[a]? := fun _ => by
  rcases Nat.lt_or_ge a i with h | h
  · rw [← hh h]
    cases seg with
    | nil => simp at hl; omega
    | cons x r => rfl
  · have : a = i := by omega
    subst this
    have : seg = [] := List.eq_nil_of_length_eq_zero (by omega)
    subst this
    rw [hc]; rfl
theorem dig_cases {c : UInt8} (h : isDig c = true) : c = 50 ∨ c = 51 ∨ c = 52 ∨ c = 53 ∨ c = 54 ∨ c = 55 ∨ c = 56 ∨ c = 57 := by
  simpa [isDig, or_assoc] using h
theorem step_dig1 {c : UInt8} {n : Option UInt8} {res : Bool} {bits : Int} {seg : Bs} {pos : Bool} {list : List Cond} (h : isDig c = true) : stepP c n ⟨res, bits, seg, 1, pos, list⟩ = none := by
  have : (c == 120) = false := by rcases dig_cases h with rfl | rfl | rfl | rfl | rfl | rfl | rfl | rfl <;> rfl
  simp only [stepP, this, h, Bool.and_false]; rfl
theorem step_dig4 {c : UInt8} {n : Option UInt8} {res : Bool} {bits : Int} {seg : Bs} {pos : Bool} {list : List Cond} (h : isDig c = true) : stepP c n ⟨res, bits, seg, 4, pos, list⟩ = some ⟨res, pushI bits 4 ((c.toNat : Int) - 48), seg ++ [c], 4, true, list⟩ := by
  have : (c == 120) = false := by rcases dig_cases h with rfl | rfl | rfl | rfl | rfl | rfl | rfl | rfl <;> rfl
  simp only [stepP, this, h, Bool.and_false]; rfl
theorem step_bin' {c : UInt8} {n : Option UInt8} {res : Bool} {bits : Int} {seg : Bs} {wid : Nat} {pos : Bool} {list : List Cond} (h : (c == 48 || c == 49) = true) : stepP c n ⟨res, bits, seg, wid, pos, list⟩ = some ⟨res, pushI bits wid ((c.toNat : Int) - 48), seg ++ [c], wid, true, list⟩ :=
  step_bin c n _ (by simpa using h)
theorem hex_cases {c : UInt8} (h : isHexL c = true) : c = 97 ∨ c = 98 ∨ c = 99 ∨ c = 100 ∨ c = 101 ∨ c = 102 ∨ c = 65 ∨ c = 66 ∨ c = 67 ∨ c = 68 ∨ c = 69 ∨ c = 70 := by
  simpa [isHexL, or_assoc] using h
theorem hex_not {c : UInt8} (h : isHexL c = true) : (c == 120) = false ∧ isDig c = false ∧ (c == 48 || c == 49) = false := by
  rcases hex_cases h with rfl | rfl | rfl | rfl | rfl | rfl | rfl | rfl | rfl | rfl | rfl | rfl <;> exact ⟨rfl, rfl, rfl⟩
section
variable {c : UInt8} {n : Option UInt8} {res : Bool} {bits : Int} {seg : Bs} {wid : Nat} {pos : Bool} {list : List Cond}
theorem step_hex1 (h : isHexL c = true) : stepP c n ⟨res, bits, seg, 1, pos, list⟩ = none := by
  obtain ⟨h1, h2, h3⟩ := hex_not h
  simp only [stepP, h1, h2, h3, h, Bool.and_false]; rfl
theorem step_hex4 (h : isHexL c = true) : stepP c n ⟨res, bits, seg, 4, pos, list⟩ = some ⟨res, pushI bits 4 (hexVal c), seg ++ [c], 4, true, list⟩ := by
  obtain ⟨h1, h2, h3⟩ := hex_not h
  simp only [stepP, h1, h2, h3, h, Bool.and_false]; rfl
theorem step_x (hs : seg = []) : stepP 120 n ⟨res, bits, seg, 1, pos, list⟩ = some ⟨res, bits, seg, 4, true, list⟩ := by
  subst hs; rfl
theorem step_x_late (hs : ¬ (seg = [] ∧ wid = 1)) : stepP 120 n ⟨res, bits, seg, wid, pos, list⟩ = none := by
  have : (seg.isEmpty && wid == 1) = false := by
    cases seg with
    | nil => simp at hs; simp [hs]
    | cons a l => rfl
  simp only [stepP, this]; rfl
theorem step_y_no (hn : n = some 48 ∨ n = some 49) : stepP 121 n ⟨res, bits, seg, wid, pos, list⟩ = none := by
  have : (n == some 48 || n == some 49) = true := by rcases hn with rfl | rfl <;> rfl
  have h1 : ((121 : UInt8) == 120) = false := rfl
  simp only [stepP, h1, this, Bool.and_false]; rfl
theorem step_y (h48 : n ≠ some 48) (h49 : n ≠ some 49) : stepP 121 n ⟨res, bits, seg, wid, pos, list⟩ = some ⟨res, 0, seg ++ [121], wid, true, list⟩ := by
  have : (n == some 48 || n == some 49) = false := by simp [h48, h49]
  have h1 : ((121 : UInt8) == 120) = false := rfl
  simp only [stepP, h1, this, Bool.and_false]; rfl
def isSg (c : UInt8) : Prop := c = 43 ∨ c = 45
theorem sg_not (h : isSg c) : (c == 120) = false ∧ isDig c = false ∧ (c == 48 || c == 49) = false ∧ isHexL c = false ∧ (c == 121) = false ∧ (c == 43 || c == 45) = true := by
  rcases h with rfl | rfl <;> exact ⟨rfl, rfl, rfl, rfl, rfl, rfl⟩
theorem step_plus_late : stepP 43 n ⟨false, bits, seg, wid, pos, list⟩ = none := by
  obtain ⟨h1, h2, h3, h4, h5, h6⟩ := sg_not (c := 43) (.inl rfl)
  simp only [stepP, h1, h2, h3, h4, h5, h6, Bool.and_false]; rfl
theorem late_not (hr : c = 43 → res = true) : (c == 43 && !res) = false := by
  cases hc : (c == 43) with
  | false => rfl
  | true => rw [hr (by simpa using hc)]; rfl
theorem step_sign_bad (h : isSg c) (hr : c = 43 → res = true) (hb : 64 < seg.length * wid ∨ seg = []) : stepP c n ⟨res, bits, seg, wid, true, list⟩ = none := by
  obtain ⟨h1, h2, h3, h4, h5, h6⟩ := sg_not h
  have : (decide (64 < seg.length * wid) || seg.isEmpty) = true := by
    rcases hb with hb | rfl
    · simp [hb]
    · simp
  simp only [stepP, h1, h2, h3, h4, h5, h6, this, late_not hr, Bool.and_false]; rfl
theorem step_sign_ok (h : isSg c) (hr : c = 43 → res = true) (h64 : ¬ 64 < seg.length * wid) (hs : seg ≠ []) :
    stepP c n ⟨res, bits, seg, wid, true, list⟩ = some ⟨c == 43, 0, [], 1, true, list ++ [⟨if seg.head? = some 121 then 0 else maskI (seg.length * wid), bits, res⟩]⟩ := by
  obtain ⟨h1, h2, h3, h4, h5, h6⟩ := sg_not h
  have : (decide (64 < seg.length * wid) || seg.isEmpty) = false := by
    cases seg with
    | nil => exact absurd rfl hs
    | cons a l => rw [decide_eq_false h64]; rfl
  simp only [stepP, h1, h2, h3, h4, h5, h6, this, late_not hr, Bool.and_false]; rfl
theorem step_sign_first (h : isSg c) (hr : c = 43 → res = true) : stepP c n ⟨res, bits, seg, wid, false, list⟩ = some ⟨c == 43, 0, [], 1, true, if c == 45 then list ++ [⟨0, 0, true⟩] else list⟩ := by
  obtain ⟨h1, h2, h3, h4, h5, h6⟩ := sg_not h
  simp only [stepP, h1, h2, h3, h4, h5, h6, late_not hr, Bool.and_false]; rfl
theorem step_other (h1 : c ≠ 120) (h2 : isDig c = false) (h3 : (c == 48 || c == 49) = false) (h4 : isHexL c = false) (h5 : c ≠ 121) (h6 : ¬ isSg c) : stepP c n ⟨res, bits, seg, wid, pos, list⟩ = none := by
  have e1 : (c == 120) = false := by simp [h1]
  have e5 : (c == 121) = false := by simp [h5]
  have e6 : (c == 43 || c == 45) = false := by unfold isSg at h6; simp only [not_or] at h6; simp [h6.1, h6.2]
  simp only [stepP, e1, h2, h3, h4, e5, e6, Bool.and_false]; rfl
end
theorem mask_eq (N : Nat) (h : ¬ 64 < N) : IntKind.u64.wrap (IntKind.u64.wrap (2 ^ N) - 1) = maskI N := by
  unfold maskI
  have e : ∀ x : Int, IntKind.u64.wrap x = x % 18446744073709551616 := fun _ => rfl
  rw [e, e]
  rcases Nat.lt_or_ge N 64 with h1 | h1
  · have h2 : (2 : Int) ^ N ≤ 2 ^ 63 := by
      have : (2 : Nat) ^ N ≤ 2 ^ 63 := Nat.pow_le_pow_right (by omega) (by omega)
      exact_mod_cast this
    have h3 : (0 : Int) < 2 ^ N := Int.pow_pos (by omega)
    have h4 : (2 : Int) ^ 63 = 9223372036854775808 := rfl
    rw [Int.emod_eq_of_lt (by omega) (by omega), Int.emod_eq_of_lt (by omega) (by omega)]
  · have : N = 64 := by omega
    subst this; rfl
theorem infoCond : (Try.prog.info? 82).map (fun i => (i.zero, i.size, i.bytes)) = some (some (.agg #[.int .u64 0, .int .u64 0, .bool false]), 3, 24) := by kernel_rfl
theorem src3 {P : Program} {tx e : TypeId} (hk : P.underlying tx = some (.slice e)) (w : World) (x y z : Value) (hx : x.oneCell' = true) (hy : y.oneCell' = true) (hz : z.oneCell' = true) (t : TypeId) :
    Src P 3 tx (.slice (some ⟨w.heap.size, 0, none⟩) 1 1) 1 [x, y, z] (w.alloc (.cells #[x, y, z] t)) := by
  refine Src.ofSlice (w.alloc (.cells #[x, y, z] t)) hk ⟨w.heap.size, 0, none⟩ 1 1 [x, y, z] rfl (fun j u hu => ?_) (fun u hu => by simp at hu; rcases hu with rfl | rfl | rfl <;> assumption)
  rw [Addr.add_lit, Nat.zero_add, World.cell?_alloc_new]
  simpa using hu
theorem row_cond {w : World} {B : Nat} {v : Value} {list : List Cond} {m b : Int} {r : Bool} (h : Row w B 3 v (list.length + 1) (condCells list ++ [.int .u64 m, .int .u64 b, .bool r])) :
    Row w B 3 v (list ++ [Cond.mk m b r]).length (condCells (list ++ [Cond.mk m b r])) := by
  rw [condCells_append, List.length_append]; exact h
theorem nprod {i a wid : Nat} {seg : Bs} (h : seg.length = i - a) (hai : a ≤ i) (hi : i ≤ 4294967297) (hw : wid = 1 ∨ wid = 4) : ∃ N : Nat, ((i : Int) - (a : Int)) * (wid : Int) = (N : Int) ∧ N ≤ 17179869188 ∧ N = seg.length * wid := by
  refine ⟨seg.length * wid, ?_, ?_, rfl⟩
  · rw [h, Int.natCast_mul, Int.ofNat_sub hai]
  · rcases hw with rfl | rfl <;> omega
theorem other_all {p : ByteArray} {i : Nat} {c : UInt8} (hc : bt p i = (c.toNat : Int)) (hx : ¬ c = 120) (hd : ¬ isDig c = true) (hb : ¬ (c == 48 || c == 49) = true) (hh : ¬ isHexL c = true) (hy : ¬ c = 121) (hp : ¬ c = 43) (hm : ¬ c = 45) :
    (bt p i == 50) = false ∧ (bt p i == 51) = false ∧ (bt p i == 52) = false ∧ (bt p i == 53) = false ∧ (bt p i == 54) = false ∧ (bt p i == 55) = false ∧ (bt p i == 56) = false ∧ (bt p i == 57) = false ∧ (bt p i == 48) = false ∧ (bt p i == 49) = false ∧ (bt p i == 97) = false ∧ (bt p i == 98) = false ∧ (bt p i == 99) = false ∧ (bt p i == 100) = false ∧ (bt p i == 101) = false ∧ (bt p i == 102) = false ∧ (bt p i == 65) = false ∧ (bt p i == 66) = false ∧ (bt p i == 67) = false ∧ (bt p i == 68) = false ∧ (bt p i == 69) = false ∧ (bt p i == 70) = false ∧ (bt p i == 121) = false ∧ (bt p i == 43) = false ∧ (bt p i == 45) = false ∧ (bt p i == 120) = false := by
  have key : ∀ n : Nat, n < 256 → c ≠ UInt8.ofNat n → (bt p i == (n : Int)) = false := fun n hn hne => by
    rw [hc]
    cases h : ((c.toNat : Int) == (n : Int)) with
    | false => rfl
    | true => exact absurd ((u8_is hn).1 (by simpa using h)) hne
  simp only [isDig, Bool.or_eq_true, beq_iff_eq, not_or] at hd
  simp only [Bool.or_eq_true, beq_iff_eq, not_or] at hb
  simp only [isHexL, Bool.or_eq_true, beq_iff_eq, not_or] at hh
  refine ⟨key 50 (by omega) ?_, key 51 (by omega) ?_, key 52 (by omega) ?_, key 53 (by omega) ?_, key 54 (by omega) ?_, key 55 (by omega) ?_, key 56 (by omega) ?_, key 57 (by omega) ?_, key 48 (by omega) ?_, key 49 (by omega) ?_, key 97 (by omega) ?_, key 98 (by omega) ?_, key 99 (by omega) ?_, key 100 (by omega) ?_, key 101 (by omega) ?_, key 102 (by omega) ?_, key 65 (by omega) ?_, key 66 (by omega) ?_, key 67 (by omega) ?_, key 68 (by omega) ?_, key 69 (by omega) ?_, key 70 (by omega) ?_, key 121 (by omega) ?_, key 43 (by omega) ?_, key 45 (by omega) ?_, key 120 (by omega) ?_⟩
  all_goals first | exact hx | exact hy | exact hp | exact hm | (intro h; subst h; simp at hd; done) | (intro h; subst h; simp at hb; done) | (intro h; subst h; simp at hh; done)
end Go.Proofs.Ytnjdckhaecdldaa
