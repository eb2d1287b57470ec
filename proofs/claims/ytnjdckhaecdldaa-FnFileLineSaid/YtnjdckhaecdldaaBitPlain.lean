/-
  Plain laws on bit strings: the changes whose numbers end in a bit string are those that its mask and bits tell. No program in sight.
-/
import Derived.Test.YtnjdckhaecdldaaPatPlain
namespace Go.Proofs.Ytnjdckhaecdldaa
open Go.PlainAid

theorem wrap_small (n : Nat) (h : n < 18446744073709551616) : IntKind.u64.wrap (n : Int) = (n : Int) := by
  show (n : Int) % 18446744073709551616 = n
  omega
theorem bv_nat (n : Nat) (h : n < 18446744073709551616) : (BitVec.ofInt 64 (n : Int)).toNat = n := by
  rw [BitVec.toNat_ofInt]
  omega
theorem bits_and_nat (a b : Nat) (ha : a < 18446744073709551616) (hb : b < 18446744073709551616) : bits .and .u64 (a : Int) (b : Int) = ((a &&& b : Nat) : Int) := by
  unfold bits
  show IntKind.u64.wrap (((BitVec.ofInt 64 (a : Int) &&& BitVec.ofInt 64 (b : Int)).toNat : Nat) : Int) = _
  rw [BitVec.toNat_and, bv_nat a ha, bv_nat b hb]
  exact wrap_small _ (Nat.lt_of_le_of_lt Nat.and_le_left ha)
theorem bits_or_nat (a b : Nat) (ha : a < 18446744073709551616) (hb : b < 18446744073709551616) : bits .or .u64 (a : Int) (b : Int) = ((a ||| b : Nat) : Int) := by
  unfold bits
  show IntKind.u64.wrap (((BitVec.ofInt 64 (a : Int) ||| BitVec.ofInt 64 (b : Int)).toNat : Nat) : Int) = _
  rw [BitVec.toNat_or, bv_nat a ha, bv_nat b hb]
  exact wrap_small _ (by have := Nat.or_lt_two_pow (x := a) (y := b) (n := 64) (by omega) (by omega); omega)
theorem and_mask (a n : Nat) (ha : a < 18446744073709551616) (hn : n ≤ 60) : bits .and .u64 (a : Int) (maskI n) = ((a % 2 ^ n : Nat) : Int) := by
  have h1 : 1 ≤ 2 ^ n := Nat.one_le_two_pow
  have h2 : 2 ^ n ≤ 2 ^ 60 := Nat.pow_le_pow_right (by omega) hn
  have e : maskI n = ((2 ^ n - 1 : Nat) : Int) := by
    unfold maskI
    rw [Int.ofNat_sub h1]; simp
  rw [e, bits_and_nat a _ ha (by have : (2 : Nat) ^ 60 = 1152921504606846976 := rfl; omega), Nat.and_two_pow_sub_one_eq_mod]
theorem and_one (a : Nat) (ha : a < 18446744073709551616) : bits .and .u64 (a : Int) 1 = ((a % 2 : Nat) : Int) := by
  have := bits_and_nat a 1 ha (by omega)
  rw [Nat.and_one_is_mod] at this
  exact this
theorem push_one (v d : Nat) (hv : v < 1152921504606846976) (hd : d < 2) : pushI (v : Int) 1 (d : Int) = ((2 * v + d : Nat) : Int) := by
  unfold pushI
  rw [show (v : Int) * 2 ^ 1 = ((2 * v : Nat) : Int) by simp; omega, wrap_small _ (by omega), bits_or_nat _ _ (by omega) (by omega)]
  have := Nat.two_pow_add_eq_or_of_lt (i := 1) (b := d) (by omega) v
  rw [show 2 ^ 1 * v = 2 * v by omega] at this
  rw [this]
def valN (b : Bs) : Nat := b.foldl (fun v c => 2 * v + (c.toNat - 48)) 0
theorem valN_snoc (b : Bs) (c : UInt8) : valN (b ++ [c]) = 2 * valN b + (c.toNat - 48) := by simp [valN]
theorem valB_snoc (b : Bs) (c : UInt8) : valB (b ++ [c]) = pushI (valB b) 1 ((c.toNat : Int) - 48) := by simp [valB]
theorem snoc_induction {P : Bs → Prop} (h0 : P []) (h1 : ∀ b c, P b → P (b ++ [c])) (b : Bs) : P b := by
  have : ∀ n (b : Bs), b.length = n → P b := by
    intro n
    induction n with
    | zero => intro b hb; rw [List.eq_nil_of_length_eq_zero hb]; exact h0
    | succ n ih =>
      intro b hb
      have hne : b ≠ [] := by rintro rfl; simp at hb
      rw [← List.dropLast_concat_getLast hne]
      exact h1 _ _ (ih _ (by simp [hb]))
  exact this _ b rfl
def bin (b : Bs) : Prop := ∀ c ∈ b, c = 48 ∨ c = 49
theorem bin_snoc {b : Bs} {c : UInt8} (h : bin (b ++ [c])) : bin b ∧ (c = 48 ∨ c = 49) := ⟨fun x hx => h x (by simp [hx]), h c (by simp)⟩
theorem valB_N (b : Bs) : bin b → b.length ≤ 60 → valB b = ((valN b : Nat) : Int) ∧ valN b < 2 ^ b.length := by
  induction b using snoc_induction with
  | h0 => intro _ _; exact ⟨rfl, by simp [valN]⟩
  | h1 b c ih =>
    intro hb hl
    obtain ⟨hb1, hc⟩ := bin_snoc hb
    have hl' : b.length + 1 ≤ 60 := by simpa using hl
    obtain ⟨e, hlt⟩ := ih hb1 (by omega)
    have hp : 2 ^ b.length ≤ 2 ^ 59 := Nat.pow_le_pow_right (by omega) (by omega)
    have h59 : (2 : Nat) ^ 59 = 576460752303423488 := rfl
    rw [valB_snoc, valN_snoc, e, List.length_append, show [c].length = 1 from rfl, Nat.pow_succ]
    rcases hc with rfl | rfl
    · rw [show (((48 : UInt8).toNat : Nat) : Int) - 48 = ((0 : Nat) : Int) from rfl, show (48 : UInt8).toNat - 48 = 0 from rfl, push_one _ _ (by omega) (by omega)]
      exact ⟨rfl, by omega⟩
    · rw [show (((49 : UInt8).toNat : Nat) : Int) - 48 = ((1 : Nat) : Int) from rfl, show (49 : UInt8).toNat - 48 = 1 from rfl, push_one _ _ (by omega) (by omega)]
      exact ⟨rfl, by omega⟩
/-- the byte of the bit at a place from the left -/
def bitAt (id : Int) (n k : Nat) : Int := IntKind.u64.wrap (48 + bits .and .u64 (id / 2 ^ (n - 1 - k)) 1) % 256
theorem bitAt_nat (N n k : Nat) (hN : N < 18446744073709551616) : bitAt (N : Int) n k = ((48 + N / 2 ^ (n - 1 - k) % 2 : Nat) : Int) := by
  unfold bitAt
  have e : (N : Int) / 2 ^ (n - 1 - k) = ((N / 2 ^ (n - 1 - k) : Nat) : Int) := by simp
  rw [e, and_one _ (Nat.lt_of_le_of_lt (Nat.div_le_self _ _) hN)]
  have := wrap_small (48 + N / 2 ^ (n - 1 - k) % 2) (by omega)
  rw [show (48 : Int) + ((N / 2 ^ (n - 1 - k) % 2 : Nat) : Int) = ((48 + N / 2 ^ (n - 1 - k) % 2 : Nat) : Int) by simp, this]
  omega
theorem getD_old {b : Bs} {c : UInt8} {k : Nat} (h : k < b.length) : (b ++ [c]).getD k 0 = b.getD k 0 := by
  rw [List.getD, List.getD, List.getElem?_append_left h]
theorem getD_new {b : Bs} {c : UInt8} : (b ++ [c]).getD b.length 0 = c := by
  rw [List.getD, List.getElem?_append_right (Nat.le_refl _)]; simp
theorem ends_val (b : Bs) : ∀ N : Nat, bin b → ((∀ k, k < b.length → 48 + N / 2 ^ (b.length - 1 - k) % 2 = (b.getD k 0).toNat) ↔ N % 2 ^ b.length = valN b) := by
  induction b using snoc_induction with
  | h0 => intro N _; simp [valN, Nat.mod_one]
  | h1 b c ih =>
    intro N hb
    obtain ⟨hb1, hc⟩ := bin_snoc hb
    have hl : (b ++ [c]).length = b.length + 1 := by simp
    have ih' := ih (N / 2) hb1
    rw [valN_snoc, hl, Nat.pow_succ]
    have hd : c.toNat - 48 < 2 ∧ 48 ≤ c.toNat := by rcases hc with rfl | rfl <;> decide
    have hmod : N % (2 ^ b.length * 2) = 2 * (N / 2 % 2 ^ b.length) + N % 2 := by
      rw [Nat.mul_comm, Nat.mod_mul]; omega
    constructor
    · intro h
      have h1 := h b.length (by omega)
      rw [getD_new] at h1
      simp at h1
      have h2 : N / 2 % 2 ^ b.length = valN b := ih'.1 fun k hk => by
        have := h k (by omega)
        rw [getD_old hk] at this
        rw [← this, Nat.div_div_eq_div_mul, ← Nat.pow_succ', show (b.length - 1 - k).succ = b.length + 1 - 1 - k by omega]
      rw [hmod, h2]; omega
    · intro h
      rw [hmod] at h
      have e1 : N % 2 = c.toNat - 48 := by omega
      have e2 : N / 2 % 2 ^ b.length = valN b := by omega
      intro k hk
      rcases Nat.lt_or_ge k b.length with hk' | hk'
      · have := ih'.2 e2 k hk'
        rw [getD_old hk', ← this, Nat.div_div_eq_div_mul, ← Nat.pow_succ', show (b.length - 1 - k).succ = b.length + 1 - 1 - k by omega]
      · have : k = b.length := by omega
        subst this
        rw [getD_new]
        simp
        omega
/-- what spec.Ends tells -/
def endsB (id : Int) (b : Bs) : Bool := decide (b = [121]) || (List.range b.length).all fun k => bitAt id b.length k == ((b.getD k 0).toNat : Int)
theorem endsB_y (id : Int) : endsB id [121] = true := by simp [endsB]
theorem endsB_bin (N : Nat) (hN : N < 18446744073709551616) {b : Bs} (hb : isBitsL b) (hy : b ≠ [121]) : (endsB (N : Int) b = true ↔ N % 2 ^ b.length = valN b) := by
  rcases hb with h | ⟨h1, h2, h3⟩
  · exact absurd h hy
  · rw [← ends_val b N h3]
    simp only [endsB, decide_eq_false hy, Bool.false_or, List.all_eq_true, List.mem_range, beq_iff_eq]
    constructor
    · intro h k hk
      have := h k hk
      rw [bitAt_nat N _ _ hN] at this
      omega
    · intro h k hk
      rw [bitAt_nat N _ _ hN, h k hk]
/-- a condition tells whether a number ends in the bits -/
theorem cond_ends (N : Nat) (hN : N < 18446744073709551616) {b : Bs} (hb : isBitsL b) (a : Bool) : (bits .and .u64 (N : Int) (condOf (b, a)).mask == (condOf (b, a)).bits) = endsB (N : Int) b := by
  by_cases hy : b = [121]
  · subst hy
    rw [endsB_y]
    have := and_mask N 0 hN (by omega)
    simp [condOf]
    have e : maskI 0 = 0 := rfl
    rw [e] at this
    rw [this]; simp [Nat.mod_one]
  · rw [Bool.eq_iff_iff, endsB_bin N hN hb hy]
    have hl := isBits_len hb
    rcases hb with h | ⟨h1, h2, h3⟩
    · exact absurd h hy
    · obtain ⟨e, _⟩ := valB_N b h3 h2
      simp only [condOf, if_neg hy, beq_iff_eq]
      rw [and_mask N _ hN h2, e]
      omega
end Go.Proofs.Ytnjdckhaecdldaa
