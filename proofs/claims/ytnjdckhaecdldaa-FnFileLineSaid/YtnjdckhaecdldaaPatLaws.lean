/-
  Plain laws: what bisect.New makes of a documented pattern, and what it then tells of a change. No walk.
-/
import Derived.Test.YtnjdckhaecdldaaJudge
import Derived.Test.YtnjdckhaecdldaaRead
import Derived.Test.YtnjdckhaecdldaaEnds
set_option linter.unusedVariables false
namespace Go.Proofs.Ytnjdckhaecdldaa
open Go.RowKit Go.PlainAid

theorem matchTo_app (l : List Cond) (c : Cond) (id : Int) : ∀ k, k ≤ l.length → matchTo (l ++ [c]) id k = matchTo l id k
  | 0, _ => rfl
  | k + 1, h => by
    have ih := matchTo_app l c id k (by omega)
    rw [matchTo, matchTo, ih, List.getElem?_append_left (by omega)]
theorem matchL_snoc (l : List Cond) (c : Cond) (id : Int) : matchL (l ++ [c]) id = if condB id c then c.res else matchL l id := by
  unfold matchL
  rw [List.length_append, show [c].length = 1 from rfl, matchTo, List.getElem?_append_right (Nat.le_refl _), matchTo_app l c id _ (Nat.le_refl _)]
  simp
def allL (all : Bool) : List Cond := if all then [⟨0, 0, true⟩] else []
theorem match_all (all : Bool) (N : Nat) (hN : N < 18446744073709551616) : matchL (allL all) (N : Int) = all := by
  cases all with
  | false => rfl
  | true =>
    have := cond_ends N hN (b := [121]) (.inl rfl) true
    rw [endsB_y] at this
    have h : condB (N : Int) ⟨0, 0, true⟩ = true := this
    simp [allL, matchL, matchTo, h]
theorem match_holds (N : Nat) (hN : N < 18446744073709551616) (all : Bool) (ts : List (Bs × Bool)) (hts : ∀ t ∈ ts, isBitsL t.1) : matchL (allL all ++ ts.map condOf) (N : Int) = holdsTo (N : Int) all ts := by
  have : ∀ n (ts : List (Bs × Bool)), ts.length = n → (∀ t ∈ ts, isBitsL t.1) → matchL (allL all ++ ts.map condOf) (N : Int) = holdsTo (N : Int) all ts := by
    intro n
    induction n with
    | zero => intro ts h _; rw [List.eq_nil_of_length_eq_zero h]; simp [holdsTo, match_all all N hN]
    | succ n ih =>
      intro ts h hb
      have hne : ts ≠ [] := by rintro rfl; simp at h
      have ih' := ih ts.dropLast (by simp [h]) (fun t ht => hb t ((List.dropLast_sublist ts).subset ht))
      have hlast := hb _ (List.getLast_mem hne)
      rw [← List.dropLast_concat_getLast hne, List.map_append, ← List.append_assoc, List.map_singleton, matchL_snoc, holds_snoc, ih']
      generalize ts.getLast hne = t at *
      have hc : condB (N : Int) (condOf t) = endsB (N : Int) t.1 := cond_ends N hN hlast t.2
      have hr : (condOf t).res = t.2 := by unfold condOf; split <;> rfl
      rw [hc, hr]
  exact this _ ts rfl hts
theorem terms_bits {add : Bool} {s : Bs} {ts : List (Bs × Bool)} (h : Terms add s ts) : ∀ t ∈ ts, isBitsL t.1 := by
  induction h with
  | last hb => intro t ht; simp at ht; rw [ht]; exact hb
  | more hb hc ha hr ih =>
    intro t ht
    rcases List.mem_cons.1 ht with h | h
    · rw [h]; exact hb
    · exact ih t h
theorem readTerms_bits {s : Bs} {all : Bool} {ts : List (Bs × Bool)} (h : ReadTerms s all ts) : ∀ t ∈ ts, isBitsL t.1 := by
  rcases h with ⟨_, _, _, h⟩ | ⟨_, _, _, h⟩ | ⟨_, h⟩ <;> exact terms_bits h
/-- the first byte of terms -/
theorem bits_head {b : Bs} (h : isBitsL b) : ∃ c r, b = c :: r ∧ (c = 121 ∨ c = 48 ∨ c = 49) := by
  rcases h with rfl | ⟨h1, _, h3⟩
  · exact ⟨121, [], rfl, .inl rfl⟩
  · cases b with
    | nil => simp at h1
    | cons c r => exact ⟨c, r, rfl, .inr (h3 c (by simp))⟩
theorem terms_head {add : Bool} {s : Bs} {ts : List (Bs × Bool)} (h : Terms add s ts) : ∃ c r, s = c :: r ∧ (c = 121 ∨ c = 48 ∨ c = 49) := by
  cases h with
  | last hb => exact bits_head hb
  | more hb hc ha hr =>
    obtain ⟨c, r, rfl, h⟩ := bits_head hb
    exact ⟨c, _, rfl, h⟩
theorem readTerms_head {s : Bs} {all : Bool} {ts : List (Bs × Bool)} (h : ReadTerms s all ts) : ∃ c r, s = c :: r ∧ (c = 121 ∨ c = 48 ∨ c = 49 ∨ c = 43 ∨ c = 45) := by
  rcases h with ⟨r, h, _⟩ | ⟨r, h, _⟩ | ⟨_, h⟩
  · exact ⟨43, r, h, by simp⟩
  · exact ⟨45, r, h, by simp⟩
  · obtain ⟨c, r, h, h2⟩ := terms_head h
    exact ⟨c, r, h, by rcases h2 with h | h | h <;> simp [h]⟩
theorem readTerms_n {s : Bs} {all : Bool} {ts : List (Bs × Bool)} (h : ReadTerms s all ts) : s ≠ [110] := by
  rintro rfl
  obtain ⟨c, r, h, h2⟩ := readTerms_head h
  cases h
  simp at h2
/-- at a first sign -/
theorem run_first (c : UInt8) (hc : c = 43 ∨ c = 45) (r : Bs) : runP (c :: r) st0 = runP r (.bare (c == 43) true (allL (c == 45))) := by
  rcases hc with rfl | rfl <;> rfl
theorem run_read {s : Bs} {all : Bool} {ts : List (Bs × Bool)} (h : ReadTerms s all ts) : ∃ st, runP s st0 = some st ∧ st.list = allL all ++ ts.map condOf := by
  rcases h with ⟨r, rfl, rfl, h⟩ | ⟨r, rfl, rfl, h⟩ | ⟨rfl, h⟩
  · rw [run_first 43 (.inl rfl)]; exact run_terms_all h true _
  · rw [run_first 45 (.inr rfl)]; exact run_terms_all h true _
  · exact run_terms_all h false []
theorem main_read {s : Bs} {all : Bool} {ts : List (Bs × Bool)} (h : ReadTerms s all ts) (v q e : Bool) : mainL s v q e = some ⟨v, q, e, allL all ++ ts.map condOf⟩ := by
  obtain ⟨st, h1, h2⟩ := run_read h
  rw [mainL, if_neg (readTerms_n h), h1]; simp [h2]
theorem dropN_head {c : UInt8} {r : Bs} (e : Bool) (h : c ≠ 33) : dropN (c :: r) e = some (c :: r, e) := by
  rw [dropN]; simp [h]
theorem dropV_head {c : UInt8} {r : Bs} (v q : Bool) (h : c ≠ 118) : dropV (c :: r) v q = some (c :: r, v, q) := by
  rw [dropV]; simp [h]
theorem pref_terms {s : Bs} {all : Bool} {ts : List (Bs × Bool)} (h : ReadTerms s all ts) (v q : Bool) : prefN s v q = some ⟨v, q, true, allL all ++ ts.map condOf⟩ := by
  obtain ⟨c, r, rfl, hc⟩ := readTerms_head h
  rw [prefN, dropN_head _ (by rcases hc with h | h | h | h | h <;> simp [h])]
  exact main_read h v q true
theorem pref_bang {s : Bs} {all : Bool} {ts : List (Bs × Bool)} (h : ReadTerms s all ts) (v q : Bool) : prefN (33 :: s) v q = some ⟨v, q, false, allL all ++ ts.map condOf⟩ := by
  obtain ⟨c, r, rfl, hc⟩ := readTerms_head h
  rw [prefN, dropN]
  simp only [beq_self_eq_true, if_true, List.isEmpty_cons, Bool.false_eq_true, if_false]
  rw [dropN_head _ (by rcases hc with h | h | h | h | h <;> simp [h])]
  exact main_read h v q false
theorem pref_read {s : Bs} {d all : Bool} {ts : List (Bs × Bool)} (h : ReadBody s d all ts) (v q : Bool) : prefN s v q = some ⟨v, q, !d, allL all ++ ts.map condOf⟩ := by
  rcases h with ⟨rfl, rfl, rfl, rfl⟩ | ⟨r, rfl, rfl, h⟩ | ⟨rfl, h⟩
  · rfl
  · exact pref_bang h v q
  · exact pref_terms h v q
theorem body_head {s : Bs} {d all : Bool} {ts : List (Bs × Bool)} (h : ReadBody s d all ts) : ∃ c r, s = c :: r ∧ (c = 110 ∨ c = 33 ∨ c = 121 ∨ c = 48 ∨ c = 49 ∨ c = 43 ∨ c = 45) := by
  rcases h with ⟨rfl, _⟩ | ⟨r, rfl, _⟩ | ⟨_, h⟩
  · exact ⟨110, [], rfl, by simp⟩
  · exact ⟨33, r, rfl, by simp⟩
  · obtain ⟨c, r, h, h2⟩ := readTerms_head h
    exact ⟨c, r, h, by rcases h2 with h | h | h | h | h <;> simp [h]⟩
theorem new_body {s : Bs} {d all : Bool} {ts : List (Bs × Bool)} (h : ReadBody s d all ts) : newL s = some ⟨false, false, !d, allL all ++ ts.map condOf⟩ := by
  obtain ⟨c, r, rfl, hc⟩ := body_head h
  have h1 : c ≠ 113 := by rcases hc with h | h | h | h | h | h | h <;> simp [h]
  have h2 : c ≠ 118 := by rcases hc with h | h | h | h | h | h | h <;> simp [h]
  rw [newL, if_neg (by simp [h1]), prefV, dropV_head _ _ h2]
  exact pref_read h false false
theorem new_v {s : Bs} {d all : Bool} {ts : List (Bs × Bool)} (h : ReadBody s d all ts) : newL (118 :: s) = some ⟨true, false, !d, allL all ++ ts.map condOf⟩ := by
  obtain ⟨c, r, rfl, hc⟩ := body_head h
  have h2 : c ≠ 118 := by rcases hc with h | h | h | h | h | h | h <;> simp [h]
  rw [newL, if_neg (by decide), prefV, dropV]
  simp only [beq_self_eq_true, if_true, List.isEmpty_cons, Bool.false_eq_true, if_false]
  rw [dropV_head _ _ h2]
  exact pref_read h true false
theorem new_read {s : Bs} {p : Pat} (h : ReadOk s p) : newL s = some ⟨p.visible, false, !p.disable, allL p.all ++ p.terms.map condOf⟩ := by
  rcases h with ⟨r, rfl, hv, h⟩ | ⟨hv, h⟩
  · rw [hv]; exact new_v h
  · rw [hv]; exact new_body h
theorem read_bits {s : Bs} {p : Pat} (h : ReadOk s p) : ∀ t ∈ p.terms, isBitsL t.1 := by
  have : ∀ s d all ts, ReadBody s d all ts → ∀ t ∈ ts, isBitsL t.1 := by
    rintro s d all ts (⟨_, _, _, rfl⟩ | ⟨_, _, _, h⟩ | ⟨_, h⟩)
    · intro t ht; simp at ht; rw [ht]; exact .inl rfl
    · exact readTerms_bits h
    · exact readTerms_bits h
  rcases h with ⟨_, _, _, h⟩ | ⟨_, h⟩ <;> exact this _ _ _ _ h
theorem read_ne {s : Bs} {p : Pat} (h : ReadOk s p) : s.isEmpty = false := by
  rcases h with ⟨r, rfl, _⟩ | ⟨_, h⟩
  · rfl
  · obtain ⟨c, r, rfl, _⟩ := body_head h; rfl
theorem judge_of {l : Bs} {M : Mat} (h0 : l.isEmpty = false) (h : newL l = some M) (id : Int) : judge l id = ⟨true, false, matchL M.list id == M.enable, !M.quiet && matchL M.list id, !M.verbose⟩ := by
  rw [judge, h0, h]; rfl
theorem judge_read {s : Bs} {p : Pat} (h : ReadOk s p) (N : Nat) (hN : N < 18446744073709551616) : judge s (N : Int) = ⟨true, false, holdsTo (N : Int) p.all p.terms != p.disable, holdsTo (N : Int) p.all p.terms, !p.visible⟩ := by
  rw [judge_of (read_ne h) (new_read h)]
  simp only [match_holds N hN p.all p.terms (read_bits h)]
  cases holdsTo (N : Int) p.all p.terms <;> cases p.disable <;> rfl
end Go.Proofs.Ytnjdckhaecdldaa
