/-
  Plain facts on edits: what a text becomes by edits in order, and that the order is one. No program.
-/
import Derived.Test.YtboiigeomgdkjaaStablePlain
import Derived.Test.YtboiigeomgdkjaaSteps
import Derived.Test.YtboiigeomgdkjaaBytes
set_option linter.unusedVariables false
namespace Go.Proofs.Ytboiigeomgdkjaa
open Go.PlainAid
abbrev Bs := List UInt8

section
variable {α : Type}
theorem Mv.inside {a b : Nat} {s t : Nat → Nat} (e3 : ∀ k, t (s k) = k) (e4 : ∀ k, k < a ∨ b ≤ k → s k = k) {k : Nat} (h1 : a ≤ k) (h2 : k < b) : a ≤ s k ∧ s k < b := by
  have : ¬ (s k < a ∨ b ≤ s k) := by
    intro hs
    have h5 := e4 _ hs
    have h6 : t (s (s k)) = t (s k) := by rw [h5]
    rw [e3, e3] at h6
    omega
  omega
theorem Mv.pair {n : Nat} {f g : Nat → α} (h : Mv 0 n f g) {R : α → α → Prop} (hR : ∀ i j, i < n → j < n → i ≠ j → R (f i) (f j)) : ∀ i j, i < n → j < n → i ≠ j → R (g i) (g j) := by
  obtain ⟨s, t, e1, e2, e3, e4⟩ := h
  intro i j hi hj hij
  rw [e1, e1]
  refine hR _ _ (Mv.inside e3 e4 (Nat.zero_le _) hi).2 (Mv.inside e3 e4 (Nat.zero_le _) hj).2 fun h => hij ?_
  have := congrArg t h
  rw [e3, e3] at this
  exact this
theorem grow_id {s : Nat → Nat} {n : Nat} (h : ∀ i j, i < j → j < n → s i < s j) : ∀ k, k < n → k ≤ s k := by
  intro k
  induction k with
  | zero => intro _; omega
  | succ k ih => intro hk; have h1 := ih (by omega); have h2 := h k (k + 1) (by omega) hk; omega
theorem Mv.uniq {n : Nat} {f g1 g2 : Nat → α} (h1 : Mv 0 n f g1) (h2 : Mv 0 n f g2) (key : α → Int) (k1 : ∀ i j, i < j → j < n → key (g1 i) < key (g1 j)) (k2 : ∀ i j, i < j → j < n → key (g2 i) < key (g2 j)) : ∀ k, k < n → g1 k = g2 k := by
  obtain ⟨s, t, e1, e2, e3, e4⟩ := h1
  obtain ⟨s', t', d1, d2, d3, d4⟩ := h2
  have e4' : ∀ k, k < 0 ∨ n ≤ k → t k = k := fun k hk => by have := e3 k; rw [e4 k hk] at this; exact this
  have d4' : ∀ k, k < 0 ∨ n ≤ k → t' k = k := fun k hk => by have := d3 k; rw [d4 k hk] at this; exact this
  have inS : ∀ k, k < n → t (s' k) < n := fun k hk => (Mv.inside e2 e4' (Nat.zero_le _) (Mv.inside d3 d4 (Nat.zero_le _) hk).2).2
  have inT : ∀ k, k < n → t' (s k) < n := fun k hk => (Mv.inside d2 d4' (Nat.zero_le _) (Mv.inside e3 e4 (Nat.zero_le _) hk).2).2
  have g12 : ∀ k, g2 k = g1 (t (s' k)) := fun k => by rw [d1, e1, e2]
  have g21 : ∀ k, g1 k = g2 (t' (s k)) := fun k => by rw [d1, e1, d2]
  have m1 : ∀ i j, i < j → j < n → t (s' i) < t (s' j) := fun i j hij hj => by
    have h := k2 i j hij hj
    rw [g12, g12] at h
    rcases Nat.lt_trichotomy (t (s' i)) (t (s' j)) with c | c | c
    · exact c
    · rw [c] at h; omega
    · have := k1 _ _ c (inS i (by omega)); omega
  have m2 : ∀ i j, i < j → j < n → t' (s i) < t' (s j) := fun i j hij hj => by
    have h := k1 i j hij hj
    rw [g21, g21] at h
    rcases Nat.lt_trichotomy (t' (s i)) (t' (s j)) with c | c | c
    · exact c
    · rw [c] at h; omega
    · have := k2 _ _ c (inT i (by omega)); omega
  intro k hk
  have a1 := grow_id m1 k hk
  have a2 := grow_id m2 (t (s' k)) (inS k hk)
  rw [e2, d3] at a2
  have : t (s' k) = k := by omega
  rw [g12, this]
theorem Mv.dnf {m k : Nat} (f : Nat → α) (hk : k ≤ m) : Mv 0 (m + 1) f (dnf f m k) := by
  have : ∀ q, q ≤ m → Mv 0 (m + 1) f (Proofs.Ytboiigeomgdkjaa.dnf f m (m - q)) := by
    intro q
    induction q with
    | zero => intro _; rw [Nat.sub_zero, dnf_zero]; exact Mv.refl _ _ _
    | succ q ih =>
      intro hq
      have h1 := ih (by omega)
      have h2 := dnf_succ f m (m - q) (by omega) (by omega)
      rw [show m - (q + 1) = m - q - 1 by omega, ← h2]
      exact h1.trans (Mv.swap _ (by omega) (by omega) (by omega) (by omega))
  have := this (m - k) (by omega)
  rwa [show m - (m - k) = k by omega] at this
theorem Mv.rev {n : Nat} (f : Nat → α) : Mv 0 n f (fun k => if k < n then f (n - 1 - k) else f k) := by
  refine ⟨fun k => if k < n then n - 1 - k else k, fun k => if k < n then n - 1 - k else k, fun k => ?_, fun k => ?_, fun k => ?_, fun k hk => ?_⟩
  · dsimp only; split <;> rfl
  · dsimp only; repeat' split
    all_goals omega
  · dsimp only; repeat' split
    all_goals omega
  · dsimp only; rw [if_neg (by omega)]
end

def ltE (x y : St) : Bool := if x.1 = y.1 then decide (x.2.1 < y.2.1) else decide (x.1 < y.1)
theorem ordE : Ord ltE := by
  refine ⟨fun x y h => ?_, fun x y z h1 h2 => ?_⟩
  · unfold ltE at *; repeat' split at h
    all_goals repeat' split
    all_goals simp at *
    all_goals omega
  · unfold ltE at *; repeat' split at h1
    all_goals repeat' split at h2
    all_goals repeat' split
    all_goals simp at *
    all_goals omega
/-- by the start alone -/
def ltS (x y : St) : Bool := decide (x.1 < y.1)
theorem ordS : Ord ltS := by
  refine ⟨fun x y h => ?_, fun x y z h1 h2 => ?_⟩ <;> unfold ltS at * <;> simp at * <;> omega
def inN (n : Nat) (z : St) : Prop := 0 ≤ z.1 ∧ z.1 ≤ z.2.1 ∧ z.2.1 ≤ n
def apartR (z y : St) : Prop := ¬ (z.1 ≤ y.2.1 ∧ y.1 ≤ z.2.1)

def offK (g : Nat → St) : Nat → Nat
  | 0 => 0
  | k + 1 => (g k).2.1.toNat
def outK (g : Nat → St) (d : Bs) : Nat → Bs
  | 0 => []
  | k + 1 => outK g d k ++ (d.drop (offK g k)).take ((g k).1.toNat - offK g k) ++ L (g k).2.2
theorem offK_zero (g : Nat → St) : offK g 0 = 0 := rfl
theorem offK_succ (g : Nat → St) (k : Nat) : offK g (k + 1) = (g k).2.1.toNat := rfl
theorem outK_succ (g : Nat → St) (d : Bs) (k : Nat) : outK g d (k + 1) = outK g d k ++ (d.drop (offK g k)).take ((g k).1.toNat - offK g k) ++ L (g k).2.2 := rfl
def finK (g : Nat → St) (d : Bs) (n : Nat) : Bs := outK g d n ++ d.drop (offK g n)
theorem offK_congr {g h : Nat → St} {n : Nat} (he : ∀ k, k < n → g k = h k) : offK g n = offK h n := by
  cases n with
  | zero => rfl
  | succ n => rw [offK_succ, offK_succ, he n (by omega)]
theorem outK_congr {g h : Nat → St} {n : Nat} (d : Bs) (he : ∀ k, k < n → g k = h k) : outK g d n = outK h d n := by
  induction n with
  | zero => rfl
  | succ n ih => rw [outK_succ, outK_succ, ih (fun k hk => he k (by omega)), he n (by omega), offK_congr (fun k hk => he k (by omega))]
theorem finK_congr {g h : Nat → St} {n : Nat} (d : Bs) (he : ∀ k, k < n → g k = h k) : finK g d n = finK h d n := by unfold finK; rw [outK_congr d he, offK_congr he]
/-- edits in order: each begins behind the ends of those ahead -/
def Chn (g : Nat → St) (n : Nat) : Prop := ∀ i j, i < j → j < n → (g i).2.1 ≤ (g j).1
theorem offK_le {g : Nat → St} {n N : Nat} (hi : ∀ k, k < n → inN N (g k)) : offK g n ≤ N := by
  cases n with
  | zero => exact Nat.zero_le _
  | succ n => have := hi n (by omega); unfold inN at this; rw [offK_succ]; omega
theorem offK_start {g : Nat → St} {n N : Nat} (hi : ∀ k, k < n → inN N (g k)) (hc : Chn g n) {k : Nat} (hk : k < n) : offK g k ≤ (g k).1.toNat ∧ (offK g k : Int) ≤ (g k).1 := by
  have h0 := hi k hk
  unfold inN at h0
  cases k with
  | zero => rw [offK_zero]; omega
  | succ k => have h1 := hi k (by omega); have h2 := hc k (k + 1) (by omega) hk; unfold inN at h1; rw [offK_succ]; omega
theorem outK_len {g : Nat → St} {d : Bs} {n M : Nat} (hi : ∀ k, k < n → inN d.length (g k)) (hc : Chn g n) (hm : ∀ k, k < n → (g k).2.2.size ≤ M) : ∀ k, k ≤ n → (outK g d k).length ≤ offK g k + k * M := by
  intro k
  induction k with
  | zero => intro _; exact Nat.zero_le _
  | succ k ih =>
    intro hk
    have h1 := ih (by omega)
    have h2 := hm k (by omega)
    have h3 := offK_start hi hc (k := k) (by omega)
    have h4 := hi k (by omega)
    unfold inN at h4
    rw [outK_succ, List.length_append, List.length_append, List.length_take, L_len, Nat.add_mul, Nat.one_mul]
    have h5 : offK g (k + 1) = (g k).2.1.toNat := rfl
    omega
/-- what lies apart, sorted, is in order -/
theorem chn_of {g : Nat → St} {n N : Nat} (hi : ∀ k, k < n → inN N (g k)) (ha : ∀ i j, i < n → j < n → i ≠ j → apartR (g i) (g j)) (hs : ∀ i j, i < j → j < n → (g i).1 ≤ (g j).1) : Chn g n := by
  intro i j hij hj
  have h1 := hi i (by omega)
  have h2 := hi j hj
  have h3 := ha i j (by omega) hj (by omega)
  have h4 := hs i j hij hj
  unfold inN at h1 h2
  unfold apartR at h3
  omega
theorem strict_of {g : Nat → St} {n N : Nat} (hi : ∀ k, k < n → inN N (g k)) (ha : ∀ i j, i < n → j < n → i ≠ j → apartR (g i) (g j)) (hs : ∀ i j, i < j → j < n → (g i).1 ≤ (g j).1) : ∀ i j, i < j → j < n → (g i).1 < (g j).1 := by
  intro i j hij hj
  have h1 := hi i (by omega)
  have h2 := hi j hj
  have h3 := ha i j (by omega) hj (by omega)
  have h4 := hs i j hij hj
  unfold inN at h1 h2
  unfold apartR at h3
  omega
theorem srtE_le {g : Nat → St} {n : Nat} (h : Srt ltE 0 n g) : ∀ i j, i < j → j < n → (g i).1 ≤ (g j).1 := by
  intro i j hij hj
  have := h i j (Nat.zero_le _) hij hj
  unfold ltE at this
  split at this <;> simp at this <;> omega
theorem srtS_le {g : Nat → St} {n : Nat} (h : Srt ltS 0 n g) : ∀ i j, i < j → j < n → (g i).1 ≤ (g j).1 := by
  intro i j hij hj
  have := h i j (Nat.zero_le _) hij hj
  unfold ltS at this
  simp at this; omega
/-- edits that lie apart have one order, and give one text -/
theorem one_order {f g1 g2 : Nat → St} {n N : Nat} (hi : ∀ k, k < n → inN N (f k)) (ha : ∀ i j, i < n → j < n → i ≠ j → apartR (f i) (f j)) (h1 : Mv 0 n f g1) (h2 : Mv 0 n f g2) (s1 : ∀ i j, i < j → j < n → (g1 i).1 ≤ (g1 j).1) (s2 : ∀ i j, i < j → j < n → (g2 i).1 ≤ (g2 j).1) (d : Bs) : finK g1 d n = finK g2 d n :=
  finK_congr d (h1.uniq h2 (fun z => z.1) (strict_of (h1.all2 (Nat.le_refl _) hi) (h1.pair ha) s1) (strict_of (h2.all2 (Nat.le_refl _) hi) (h2.pair ha) s2))
/-- a list as a function of the place -/
def fnl (l : List St) : Nat → St := fun k => l.getD k (0, 0, ⟨#[]⟩)
theorem fnl_at (l : List St) {k : Nat} (h : k < l.length) : fnl l k = l[k] := by unfold fnl; rw [List.getD, List.getElem?_eq_getElem h]; rfl
theorem fnl_append (l m : List St) (k : Nat) : fnl (l ++ m) k = if k < l.length then fnl l k else fnl m (k - l.length) := by
  unfold fnl
  split
  · rw [List.getD, List.getD, List.getElem?_append_left (by assumption)]
  · rw [List.getD, List.getD, List.getElem?_append_right (by omega)]
end Go.Proofs.Ytboiigeomgdkjaa
