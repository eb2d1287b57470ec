/-
  Plain facts for a stable sort by insertion, merging in place and rotating: rows as functions of the place. No program.
-/
import Derived.PlainAid
set_option linter.unusedVariables false
namespace Go.Proofs.Ytboiigeomgdkjaa

section
variable {α : Type}

structure Ord (lt : α → α → Bool) : Prop where
  asym : ∀ x y, lt x y = true → lt y x = false
  ntrans : ∀ x y z, lt x y = false → lt y z = false → lt x z = false

def swf (f : Nat → α) (i j : Nat) : Nat → α := fun k => if k = i then f j else if k = j then f i else f k

/-- g is f with the places from a to b moved among themselves -/
def Mv (a b : Nat) (f g : Nat → α) : Prop := ∃ s t : Nat → Nat, (∀ k, g k = f (s k)) ∧ (∀ k, s (t k) = k) ∧ (∀ k, t (s k) = k) ∧ (∀ k, k < a ∨ b ≤ k → s k = k)
theorem Mv.refl (a b : Nat) (f : Nat → α) : Mv a b f f := ⟨id, id, fun _ => rfl, fun _ => rfl, fun _ => rfl, fun _ _ => rfl⟩
theorem Mv.trans {a b : Nat} {f g h : Nat → α} (h1 : Mv a b f g) (h2 : Mv a b g h) : Mv a b f h := by
  obtain ⟨s, t, e1, e2, e3, e4⟩ := h1
  obtain ⟨s', t', d1, d2, d3, d4⟩ := h2
  refine ⟨fun k => s (s' k), fun k => t' (t k), fun k => by rw [d1, e1], fun k => by simp only [d2, e2], fun k => by simp only [e3, d3], fun k hk => by show s (s' k) = k; rw [d4 k hk, e4 k hk]⟩
theorem Mv.mono {a b a' b' : Nat} {f g : Nat → α} (h : Mv a b f g) (ha : a' ≤ a) (hb : b ≤ b') : Mv a' b' f g := by
  obtain ⟨s, t, e1, e2, e3, e4⟩ := h
  exact ⟨s, t, e1, e2, e3, fun k hk => e4 k (by omega)⟩
theorem Mv.out {a b : Nat} {f g : Nat → α} (h : Mv a b f g) {k : Nat} (hk : k < a ∨ b ≤ k) : g k = f k := by
  obtain ⟨s, t, e1, e2, e3, e4⟩ := h
  rw [e1, e4 k hk]
theorem Mv.swap {a b i j : Nat} (f : Nat → α) (h1 : a ≤ i) (h2 : i < b) (h3 : a ≤ j) (h4 : j < b) : Mv a b f (swf f i j) := by
  refine ⟨fun k => if k = i then j else if k = j then i else k, fun k => if k = i then j else if k = j then i else k, fun k => ?_, fun k => ?_, fun k => ?_, fun k hk => ?_⟩
  · unfold swf; dsimp only; repeat' split
    all_goals rfl
  · dsimp only; repeat' split
    all_goals omega
  · dsimp only; repeat' split
    all_goals omega
  · dsimp only; repeat' split
    all_goals omega
theorem Mv.all {a b : Nat} {f g : Nat → α} (h : Mv a b f g) {p : α → Prop} (hp : ∀ k, a ≤ k → k < b → p (f k)) : ∀ k, a ≤ k → k < b → p (g k) := by
  obtain ⟨s, t, e1, e2, e3, e4⟩ := h
  intro k h1 h2
  rw [e1]
  have : ¬ (s k < a ∨ b ≤ s k) := by
    intro hs
    have h5 := e4 _ hs
    have h6 : t (s (s k)) = t (s k) := by rw [h5]
    rw [e3, e3] at h6
    omega
  exact hp _ (by omega) (by omega)
theorem Mv.all2 {a b n : Nat} {f g : Nat → α} (h : Mv a b f g) (hb : b ≤ n) {p : α → Prop} (hp : ∀ k, k < n → p (f k)) : ∀ k, k < n → p (g k) :=
  fun k hk => (h.mono (Nat.zero_le _) hb).all (fun k _ h => hp k h) k (Nat.zero_le _) hk

/-- from a to b no later one is less than an earlier one -/
def Srt (lt : α → α → Bool) (a b : Nat) (f : Nat → α) : Prop := ∀ i j, a ≤ i → i < j → j < b → lt (f j) (f i) = false
theorem Srt.sub {lt : α → α → Bool} {a b a' b' : Nat} {f : Nat → α} (h : Srt lt a b f) (h1 : a ≤ a') (h2 : b' ≤ b) : Srt lt a' b' f := fun i j hi hij hj => h i j (by omega) hij (by omega)
theorem Srt.congr {lt : α → α → Bool} {a b : Nat} {f g : Nat → α} (h : Srt lt a b f) (he : ∀ k, a ≤ k → k < b → g k = f k) : Srt lt a b g := fun i j hi hij hj => by rw [he i hi (by omega), he j (by omega) hj]; exact h i j hi hij hj
theorem Srt.le {lt : α → α → Bool} (O : Ord lt) {a b : Nat} {f : Nat → α} (h : Srt lt a b f) {i j : Nat} (hi : a ≤ i) (hij : i ≤ j) (hj : j < b) : lt (f j) (f i) = false := by
  rcases Nat.lt_or_ge i j with hl | hl
  · exact h i j hi hl hj
  · obtain rfl : i = j := by omega
    cases hx : lt (f i) (f i) with
    | false => rfl
    | true => rw [O.asym _ _ hx] at hx; cases hx
/-- insertion: all but place j is in order up to i -/
def Ins (lt : α → α → Bool) (a i j : Nat) (f : Nat → α) : Prop := ∀ x y, a ≤ x → x < y → y ≤ i → y ≠ j → lt (f y) (f x) = false
theorem Ins.start {lt : α → α → Bool} {a i : Nat} {f : Nat → α} (h : Srt lt a i f) : Ins lt a i i f := fun x y h1 h2 h3 h4 => h x y h1 h2 (by omega)
theorem Ins.stop {lt : α → α → Bool} (O : Ord lt) {a i j : Nat} {f : Nat → α} (h : Ins lt a i j f) (hj : a ≤ j) (hji : j ≤ i) (hs : j = a ∨ lt (f j) (f (j - 1)) = false) : Srt lt a (i + 1) f := by
  intro x y h1 h2 h3
  by_cases hy : y = j
  · subst hy
    rcases hs with hs | hs
    · omega
    · by_cases hx : x = y - 1
      · rw [hx]; exact hs
      · exact O.ntrans _ _ _ hs (h x (y - 1) h1 (by omega) (by omega) (by omega))
  · exact h x y h1 h2 (by omega) hy
theorem Ins.swap {lt : α → α → Bool} (O : Ord lt) {a i j : Nat} {f : Nat → α} (h : Ins lt a i j f) (hj : a < j) (hji : j ≤ i) (hs : lt (f j) (f (j - 1)) = true) : Ins lt a i (j - 1) (swf f j (j - 1)) := by
  intro x y h1 h2 h3 h4
  unfold swf
  by_cases hy : y = j
  · rw [if_pos hy]
    by_cases hx : x = j - 1
    · rw [if_neg (by omega), if_pos hx]; exact O.asym _ _ hs
    · rw [if_neg (by omega), if_neg hx]; exact h x (j - 1) h1 (by omega) (by omega) (by omega)
  · rw [if_neg hy, if_neg h4]
    by_cases hx : x = j
    · rw [if_pos hx]; exact h (j - 1) y (by omega) (by omega) h3 hy
    · rw [if_neg hx]
      by_cases hx2 : x = j - 1
      · rw [if_pos hx2]; exact h j y (by omega) (by omega) h3 hy
      · rw [if_neg hx2]; exact h x y h1 h2 h3 hy

/-- two stretches of equal length changed for each other -/
def srf (f : Nat → α) (x y n : Nat) : Nat → α := fun k => if x ≤ k ∧ k < x + n then f (k - x + y) else if y ≤ k ∧ k < y + n then f (k - y + x) else f k
theorem srf_zero (f : Nat → α) (x y : Nat) : srf f x y 0 = f := by
  funext k; unfold srf; repeat' split
  all_goals first | rfl | omega
theorem srf_succ (f : Nat → α) (x y n : Nat) (h : x + n < y) : swf (srf f x y n) (x + n) (y + n) = srf f x y (n + 1) := by
  funext k; unfold swf srf; repeat' split
  all_goals first | rfl | (exfalso; omega) | (congr 1; omega)
/-- a stretch from a to m and one from m to b changed for each other -/
def rot (f : Nat → α) (a m b : Nat) : Nat → α := fun k => if k < a then f k else if k < a + (b - m) then f (k + (m - a)) else if k < b then f (k - (b - m)) else f k
theorem rot_gt (f : Nat → α) (m i j : Nat) (hi : i ≤ m) (hij : j < i) : rot (srf f (m - i) m j) (m - (i - j)) m (m + j) = rot f (m - i) m (m + j) := by
  funext k; unfold rot srf; repeat' split
  all_goals first | rfl | (exfalso; omega) | (congr 1; omega)
theorem rot_lt (f : Nat → α) (m i j : Nat) (hi : i ≤ m) (hij : i < j) : rot (srf f (m - i) (m + j - i) i) (m - i) m (m + (j - i)) = rot f (m - i) m (m + j) := by
  funext k; unfold rot srf; repeat' split
  all_goals first | rfl | (exfalso; omega) | (congr 1; omega)
theorem rot_eq (f : Nat → α) (m i : Nat) (hi : i ≤ m) : srf f (m - i) m i = rot f (m - i) m (m + i) := by
  funext k; unfold rot srf; repeat' split
  all_goals first | rfl | (exfalso; omega) | (congr 1; omega)

/-- place a moved behind those up to k -/
def upf (f : Nat → α) (a k : Nat) : Nat → α := fun x => if a ≤ x ∧ x < k then f (x + 1) else if x = k then f a else f x
theorem upf_zero (f : Nat → α) (a : Nat) : upf f a a = f := by
  funext k; unfold upf; repeat' split
  all_goals first | rfl | (exfalso; omega) | (congr 1; omega)
theorem upf_succ (f : Nat → α) (a k : Nat) (h : a ≤ k) : swf (upf f a k) k (k + 1) = upf f a (k + 1) := by
  funext x; unfold swf upf; repeat' split
  all_goals first | rfl | (exfalso; omega) | (congr 1; omega)
/-- place m moved ahead of those from k on -/
def dnf (f : Nat → α) (m k : Nat) : Nat → α := fun x => if k < x ∧ x ≤ m then f (x - 1) else if x = k then f m else f x
theorem dnf_zero (f : Nat → α) (m : Nat) : dnf f m m = f := by
  funext k; unfold dnf; repeat' split
  all_goals first | rfl | (exfalso; omega) | (congr 1; omega)
theorem dnf_succ (f : Nat → α) (m k : Nat) (h : k ≤ m) (h0 : 0 < k) : swf (dnf f m k) k (k - 1) = dnf f m (k - 1) := by
  funext x; unfold swf dnf; repeat' split
  all_goals first | rfl | (exfalso; omega) | (congr 1; omega)
/-- one element ahead of a sorted stretch, put behind those that are less -/
theorem up_srt {lt : α → α → Bool} (O : Ord lt) {f : Nat → α} {a b i : Nat} (hs : Srt lt (a + 1) b f) (h1 : a + 1 ≤ i) (h2 : i ≤ b) (hl : ∀ k, a + 1 ≤ k → k < i → lt (f k) (f a) = true) (hr : i < b → lt (f i) (f a) = false) : Srt lt a b (upf f a (i - 1)) := by
  intro x y hx hxy hy
  unfold upf
  by_cases c1 : y < i - 1
  · rw [if_pos (by omega), if_pos (by omega)]; exact hs _ _ (by omega) (by omega) (by omega)
  by_cases c2 : y = i - 1
  · rw [if_neg (by omega), if_pos c2, if_pos (by omega)]; exact O.asym _ _ (hl _ (by omega) (by omega))
  rw [if_neg (by omega), if_neg c2]
  by_cases d1 : x < i - 1
  · rw [if_pos (by omega)]; exact hs _ _ (by omega) (by omega) (by omega)
  by_cases d2 : x = i - 1
  · rw [if_neg (by omega), if_pos d2]
    exact O.ntrans _ (f i) _ (hs.le O (by omega) (by omega) hy) (hr (by omega))
  · rw [if_neg (by omega), if_neg d2]; exact hs _ _ (by omega) (by omega) (by omega)
/-- one element behind a sorted stretch, put ahead of those that it is less than -/
theorem dn_srt {lt : α → α → Bool} (O : Ord lt) {f : Nat → α} {a m i : Nat} (hs : Srt lt a m f) (h1 : a ≤ i) (h2 : i ≤ m) (hl : a < i → lt (f m) (f (i - 1)) = false) (hr : ∀ k, i ≤ k → k < m → lt (f m) (f k) = true) : Srt lt a (m + 1) (dnf f m i) := by
  intro x y hx hxy hy
  unfold dnf
  by_cases c1 : i < y
  · rw [if_pos (show i < y ∧ y ≤ m by omega)]
    by_cases d1 : i < x
    · rw [if_pos (by omega)]; exact hs _ _ (by omega) (by omega) (by omega)
    by_cases d2 : x = i
    · rw [if_neg (by omega), if_pos d2]; exact O.asym _ _ (hr _ (by omega) (by omega))
    · rw [if_neg (by omega), if_neg d2]; exact hs _ _ (by omega) (by omega) (by omega)
  by_cases c2 : y = i
  · rw [if_neg (by omega), if_pos c2, if_neg (by omega), if_neg (by omega)]
    have h3 := hl (by omega)
    exact O.ntrans _ _ _ h3 (hs.le O hx (by omega) (by omega))
  · rw [if_neg (by omega), if_neg c2, if_neg (by omega), if_neg (by omega)]; exact hs _ _ (by omega) (by omega) (by omega)

/-- the great step of merging in place: behind the rotation both halves are in two sorted stretches, and nothing of the second half is less than something of the first -/
theorem merge_step {lt : α → α → Bool} (O : Ord lt) {f : Nat → α} {a m b mid start fin : Nat} (ham : a ≤ m) (hmb : m ≤ b) (h1 : Srt lt a m f) (h2 : Srt lt m b f) (has : a ≤ start) (hsm : start ≤ m) (hme : m ≤ fin) (heb : fin ≤ b) (hmid : start + fin = mid + m)
    (hL : a < start → fin < b → lt (f fin) (f (start - 1)) = false) (hR : start < m → m < fin → lt (f (fin - 1)) (f start) = true) :
    Srt lt a start (rot f start m fin) ∧ Srt lt start mid (rot f start m fin) ∧ Srt lt mid fin (rot f start m fin) ∧ Srt lt fin b (rot f start m fin) ∧ (∀ x y, a ≤ x → x < mid → mid ≤ y → y < b → lt (rot f start m fin y) (rot f start m fin x) = false) := by
  have le1 := fun {i j : Nat} (hi : a ≤ i) (hij : i ≤ j) (hj : j < m) => h1.le O hi hij hj
  have le2 := fun {i j : Nat} (hi : m ≤ i) (hij : i ≤ j) (hj : j < b) => h2.le O hi hij hj
  have r1 : ∀ k, k < start → rot f start m fin k = f k := fun k hk => by unfold rot; rw [if_pos hk]
  have r2 : ∀ k, start ≤ k → k < mid → rot f start m fin k = f (k + (m - start)) := fun k hk hk2 => by unfold rot; rw [if_neg (by omega), if_pos (by omega)]
  have r3 : ∀ k, mid ≤ k → k < fin → rot f start m fin k = f (k - (fin - m)) := fun k hk hk2 => by unfold rot; rw [if_neg (by omega), if_neg (by omega), if_pos (by omega)]
  have r4 : ∀ k, fin ≤ k → rot f start m fin k = f k := fun k hk => by unfold rot; rw [if_neg (by omega), if_neg (by omega), if_neg (by omega)]
  refine ⟨fun i j hi hij hj => ?_, fun i j hi hij hj => ?_, fun i j hi hij hj => ?_, fun i j hi hij hj => ?_, fun x y hx hxm hy hyb => ?_⟩
  · rw [r1 _ hj, r1 _ (by omega)]; exact h1 _ _ hi hij (by omega)
  · rw [r2 _ (by omega) hj, r2 _ hi (by omega)]; exact h2 _ _ (by omega) (by omega) (by omega)
  · rw [r3 _ (by omega) hj, r3 _ hi (by omega)]; exact h1 _ _ (by omega) (by omega) (by omega)
  · rw [r4 _ (by omega), r4 _ hi]; exact h2 _ _ (by omega) hij hj
  · by_cases cx : x < start
    · rw [r1 _ cx]
      by_cases cy : y < fin
      · rw [r3 _ hy cy]; exact le1 hx (by omega) (by omega)
      · rw [r4 _ (by omega)]
        exact O.ntrans _ _ _ (le2 (i := fin) (by omega) (by omega) hyb) (O.ntrans _ _ _ (hL (by omega) (by omega)) (le1 hx (by omega) (by omega)))
    · rw [r2 _ (by omega) hxm]
      by_cases cy : y < fin
      · rw [r3 _ hy cy]
        have h3 := O.asym _ _ (hR (by omega) (by omega))
        exact O.ntrans _ _ _ (le1 (i := start) (by omega) (by omega) (by omega)) (O.ntrans _ _ _ h3 (le2 (by omega) (by omega) (by omega)))
      · rw [r4 _ (by omega)]; exact le2 (by omega) (by omega) hyb
/-- both halves sorted, and nothing of the second one less than something of the first -/
theorem halves {lt : α → α → Bool} {f : Nat → α} {a mid b : Nat} (h1 : Srt lt a mid f) (h2 : Srt lt mid b f) (h3 : ∀ x y, a ≤ x → x < mid → mid ≤ y → y < b → lt (f y) (f x) = false) : Srt lt a b f := fun i j hi hij hj => by
  by_cases c1 : j < mid
  · exact h1 i j hi hij c1
  by_cases c2 : mid ≤ i
  · exact h2 i j c2 hij hj
  · exact h3 i j hi (by omega) (by omega) hj
theorem rot_none (f : Nat → α) (a m b : Nat) (h : a = m ∨ m = b) (ham : a ≤ m) (hmb : m ≤ b) : rot f a m b = f := by
  funext k; unfold rot; repeat' split
  all_goals first | rfl | (exfalso; omega) | (congr 1; omega)
/-- runs of bs, each sorted, from a place on -/
inductive Runs (lt : α → α → Bool) (f : Nat → α) (bs n : Nat) : Nat → Prop
  | done {a : Nat} : n ≤ a → Runs lt f bs n a
  | step {a : Nat} : Srt lt a (min (a + bs) n) f → Runs lt f bs n (a + bs) → Runs lt f bs n a
theorem Runs.congr {lt : α → α → Bool} {f g : Nat → α} {bs n a : Nat} (h : Runs lt f bs n a) : (∀ k, a ≤ k → g k = f k) → Runs lt g bs n a := by
  induction h with
  | done h => exact fun _ => .done h
  | step h _ ih => exact fun he => .step (h.congr fun k h1 _ => he k h1) (ih fun k hk => he k (by omega))
theorem Runs.first {lt : α → α → Bool} {f : Nat → α} {bs n a : Nat} (h : Runs lt f bs n a) : Srt lt a (min (a + bs) n) f := by
  cases h with
  | done h => intro i j h1 h2 h3; omega
  | step h _ => exact h
theorem Runs.next {lt : α → α → Bool} {f : Nat → α} {bs n a : Nat} (h : Runs lt f bs n a) : Runs lt f bs n (a + bs) := by
  cases h with
  | done h => exact .done (by omega)
  | step _ h => exact h
/-- what lies ahead of a is in runs already -/
def Pre (lt : α → α → Bool) (bs n a : Nat) (f : Nat → α) : Prop := ∀ g : Nat → α, (∀ k, k < a → g k = f k) → Runs lt g bs n a → Runs lt g bs n 0
theorem Pre.zero (lt : α → α → Bool) (bs n : Nat) (f : Nat → α) : Pre lt bs n 0 f := fun _ _ h => h
theorem Pre.step {lt : α → α → Bool} {bs n a : Nat} {f g : Nat → α} (h : Pre lt bs n a f) (he : ∀ k, k < a → g k = f k) (hs : Srt lt a (min (a + bs) n) g) : Pre lt bs n (a + bs) g := fun h' hk hr =>
  h h' (fun k hk' => (hk k (by omega)).trans (he k hk')) (.step (hs.congr fun k h1 h2 => hk k (by omega)) hr)
theorem Pre.end_ {lt : α → α → Bool} {bs n a : Nat} {f g : Nat → α} (h : Pre lt bs n a f) (he : ∀ k, k < a → g k = f k) (ha : a ≤ n) (hn : n < a + bs) (hs : Srt lt a n g) : Runs lt g bs n 0 :=
  h g he (.step (hs.sub (Nat.le_refl _) (by omega)) (.done (by omega)))
theorem Runs.all {lt : α → α → Bool} {f : Nat → α} {bs n : Nat} (h : Runs lt f bs n 0) (hn : n ≤ bs) : Srt lt 0 n f := h.first.sub (Nat.le_refl _) (by omega)
end
end Go.Proofs.Ytboiigeomgdkjaa
