/-
  The contract of spec.TooLong: it tells whether the sum of the sizes is over 1000000. For every list of sizes between 0 and 2147483648.
-/
import Derived.Test.YtnjdckhaecdldaaProg
import Derived.WalkKit
import Derived.Lib.Hide
namespace Go.Proofs.Ytnjdckhaecdldaa
open Go.RowKit

theorem sum_take_succ (ns : List Int) (k : Nat) (h : k < ns.length) : (ns.take (k + 1)).sum = (ns.take k).sum + ns.getD k 0 := by
  rw [List.take_succ_eq_append_getElem h, List.sum_append, List.getD, List.getElem?_eq_getElem h]
  simp only [List.sum_cons, List.sum_nil, Option.getD_some]
  omega
theorem sum_nonneg (ns : List Int) (h : ∀ x ∈ ns, 0 ≤ x) : 0 ≤ ns.sum := by
  induction ns with
  | nil => simp
  | cons a l ih => have h1 := h a (by simp); have h2 := ih (fun x hx => h x (by simp [hx])); simp; omega
theorem sum_take_le (ns : List Int) (h : ∀ x ∈ ns, 0 ≤ x) (k : Nat) : (ns.take k).sum ≤ ns.sum := by
  have e := congrArg List.sum (List.take_append_drop k ns)
  rw [List.sum_append] at e
  have := sum_nonneg (ns.drop k) (fun x hx => h x (List.mem_of_mem_drop hx))
  omega

theorem tooLong_no (b n cap : Nat) (ns : List Int) (t : TypeId) (fr : Nat × Nat) (w : World) (hb : w.heap[b]? = some (.cells (ns.map (Value.int .i64)).toArray t fr)) (hn : ns.length = n) (hl : n ≤ 100)
    (h0 : ∀ x ∈ ns, 0 ≤ x) (hs : ns.sum ≤ 1000000) :
    Calls Try.prog 8 #[.slice (some ⟨b, 0, none⟩) n cap] w fun e w' => e = .returned (.bool false) ∧ w = w' := by
  have hc : ∀ k, k < n → w.cell? ⟨b, k, none⟩ = some (.int .i64 (ns.getD k 0)) := fun k hk => by
    rw [cell_of_row w b k _ t fr hb]; simp [List.getD, List.getElem?_eq_getElem (show k < ns.length by omega)]
  have HC := Lib.hid hc
  have HN := Lib.hid hn
  clear hb hc hn
  go_enter Try.func8, Try.ntmps8
  go_wp2
  go_loop [3, 8] (fun t i => ∃ k : Nat, k ≤ n ∧ i = .int .i64 k ∧ t = .int .i64 (ns.take k).sum) (fun _ i => n - (intOf i).toNat)
  case atStart => exact ⟨0, Nat.zero_le _, rfl, rfl⟩
  case round =>
    obtain ⟨k, hk, rfl, rfl⟩ := hrel
    by_cases hlt : k < n
    · have c := HC.out k hlt
      have s1 := sum_nonneg (ns.take k) (fun x hx => h0 x (List.mem_of_mem_take hx))
      have s2 := sum_take_le ns h0 (k + 1)
      have s3 := sum_take_succ ns k (by have := HN.out; omega)
      have s4 : 0 ≤ ns.getD k 0 := by
        rw [List.getD, List.getElem?_eq_getElem (by have := HN.out; omega)]
        exact h0 _ (List.getElem_mem _)
      have s5 := sum_take_le ns h0 k
      have e2 : ¬ (1000000 - (ns.take k).sum < ns.getD k 0) := by omega
      have S3 := Lib.hid s3
      generalize hg : (ns.take k).sum = S at *
      generalize hv : ns.getD k 0 = V at *
      have HG := Lib.hid hg
      have HV := Lib.hid hv
      have e4 : S + V ≤ 1000000 := by omega
      clear s3 hg hv s2
      go_wp2
      go_round
      case rel => exact ⟨k + 1, by omega, by go_num, by rw [S3.out]⟩
      case measure => simp [intOf]; omega
    · go_wp2
      go_ret
      exact ⟨rfl, rfl⟩

theorem tooLong_yes (b n cap : Nat) (ns : List Int) (t : TypeId) (fr : Nat × Nat) (w : World) (hb : w.heap[b]? = some (.cells (ns.map (Value.int .i64)).toArray t fr)) (hn : ns.length = n) (hl : n ≤ 100)
    (h0 : ∀ x ∈ ns, 0 ≤ x ∧ x ≤ 2147483648) (hs : 1000000 < ns.sum) :
    Calls Try.prog 8 #[.slice (some ⟨b, 0, none⟩) n cap] w fun e w' => e = .returned (.bool true) ∧ w = w' := by
  have hc : ∀ k, k < n → w.cell? ⟨b, k, none⟩ = some (.int .i64 (ns.getD k 0)) := fun k hk => by
    rw [cell_of_row w b k _ t fr hb]; simp [List.getD, List.getElem?_eq_getElem (show k < ns.length by omega)]
  have HC := Lib.hid hc
  have HN := Lib.hid hn
  clear hb hc hn
  go_enter Try.func8, Try.ntmps8
  go_wp2
  go_loop [3, 8] (fun t i => ∃ k : Nat, k ≤ n ∧ i = .int .i64 k ∧ t = .int .i64 (ns.take k).sum ∧ (ns.take k).sum ≤ 1000000) (fun _ i => n - (intOf i).toNat)
  case atStart => exact ⟨0, Nat.zero_le _, rfl, rfl, by simp⟩
  case round =>
    obtain ⟨k, hk, rfl, rfl, hle⟩ := hrel
    by_cases hlt : k < n
    · have c := HC.out k hlt
      have s1 := sum_nonneg (ns.take k) (fun x hx => (h0 x (List.mem_of_mem_take hx)).1)
      have s3 := sum_take_succ ns k (by have := HN.out; omega)
      have s4 : 0 ≤ ns.getD k 0 ∧ ns.getD k 0 ≤ 2147483648 := by
        rw [List.getD, List.getElem?_eq_getElem (by have := HN.out; omega)]
        exact h0 _ (List.getElem_mem _)
      obtain ⟨s4, s5⟩ := s4
      have S3 := Lib.hid s3
      generalize hg : (ns.take k).sum = S at *
      generalize hv : ns.getD k 0 = V at *
      have HG := Lib.hid hg
      have HV := Lib.hid hv
      clear s3 hg hv
      by_cases e2 : 1000000 - S < V
      · go_wp2
        go_ret
        exact ⟨rfl, rfl⟩
      · go_wp2
        go_round
        case rel => exact ⟨k + 1, by omega, by go_num, by rw [S3.out], by rw [S3.out]; omega⟩
        case measure => simp [intOf]; omega
    · exfalso
      have : ns.take k = ns := List.take_of_length_le (by have := HN.out; omega)
      rw [this] at hle
      omega
theorem tooLong_no1 (w : World) (a0 : Int) (h0 : 0 ≤ a0) (hs : a0 ≤ 1000000) :
    Calls Try.prog 8 #[.slice (some ⟨w.heap.size, 0, none⟩) 1 1] (w.alloc (.cells #[.int .i64 a0] 3)) fun e w' => e = .returned (.bool false) ∧ (w.alloc (.cells #[.int .i64 a0] 3)) = w' :=
  tooLong_no w.heap.size 1 1 [a0] 3 (0, 0) _ (heap_alloc_new _ _) rfl (by omega) (by simp only [List.mem_cons, List.not_mem_nil, or_false, forall_eq];  omega) (by simp only [List.sum_cons, List.sum_nil]; omega)
theorem tooLong_yes1 (w : World) (a0 : Int) (h0 : 0 ≤ a0) (g0 : a0 ≤ 2147483648) (hs : 1000000 < a0) :
    Calls Try.prog 8 #[.slice (some ⟨w.heap.size, 0, none⟩) 1 1] (w.alloc (.cells #[.int .i64 a0] 3)) fun e w' => e = .returned (.bool true) ∧ (w.alloc (.cells #[.int .i64 a0] 3)) = w' :=
  tooLong_yes w.heap.size 1 1 [a0] 3 (0, 0) _ (heap_alloc_new _ _) rfl (by omega) (by simp only [List.mem_cons, List.not_mem_nil, or_false, forall_eq];  omega) (by simp only [List.sum_cons, List.sum_nil]; omega)
theorem tooLong_no2 (w : World) (a0 a1 : Int) (h0 : 0 ≤ a0) (h1 : 0 ≤ a1) (hs : a0 + a1 ≤ 1000000) :
    Calls Try.prog 8 #[.slice (some ⟨w.heap.size, 0, none⟩) 2 2] (w.alloc (.cells #[.int .i64 a0, .int .i64 a1] 3)) fun e w' => e = .returned (.bool false) ∧ (w.alloc (.cells #[.int .i64 a0, .int .i64 a1] 3)) = w' :=
  tooLong_no w.heap.size 2 2 [a0, a1] 3 (0, 0) _ (heap_alloc_new _ _) rfl (by omega) (by simp only [List.mem_cons, List.not_mem_nil, or_false, forall_eq_or_imp, forall_eq];  omega) (by simp only [List.sum_cons, List.sum_nil]; omega)
theorem tooLong_yes2 (w : World) (a0 a1 : Int) (h0 : 0 ≤ a0) (g0 : a0 ≤ 2147483648) (h1 : 0 ≤ a1) (g1 : a1 ≤ 2147483648) (hs : 1000000 < a0 + a1) :
    Calls Try.prog 8 #[.slice (some ⟨w.heap.size, 0, none⟩) 2 2] (w.alloc (.cells #[.int .i64 a0, .int .i64 a1] 3)) fun e w' => e = .returned (.bool true) ∧ (w.alloc (.cells #[.int .i64 a0, .int .i64 a1] 3)) = w' :=
  tooLong_yes w.heap.size 2 2 [a0, a1] 3 (0, 0) _ (heap_alloc_new _ _) rfl (by omega) (by simp only [List.mem_cons, List.not_mem_nil, or_false, forall_eq_or_imp, forall_eq];  omega) (by simp only [List.sum_cons, List.sum_nil]; omega)
theorem tooLong_no3 (w : World) (a0 a1 a2 : Int) (h0 : 0 ≤ a0) (h1 : 0 ≤ a1) (h2 : 0 ≤ a2) (hs : a0 + a1 + a2 ≤ 1000000) :
    Calls Try.prog 8 #[.slice (some ⟨w.heap.size, 0, none⟩) 3 3] (w.alloc (.cells #[.int .i64 a0, .int .i64 a1, .int .i64 a2] 3)) fun e w' => e = .returned (.bool false) ∧ (w.alloc (.cells #[.int .i64 a0, .int .i64 a1, .int .i64 a2] 3)) = w' :=
  tooLong_no w.heap.size 3 3 [a0, a1, a2] 3 (0, 0) _ (heap_alloc_new _ _) rfl (by omega) (by simp only [List.mem_cons, List.not_mem_nil, or_false, forall_eq_or_imp, forall_eq];  omega) (by simp only [List.sum_cons, List.sum_nil]; omega)
theorem tooLong_yes3 (w : World) (a0 a1 a2 : Int) (h0 : 0 ≤ a0) (g0 : a0 ≤ 2147483648) (h1 : 0 ≤ a1) (g1 : a1 ≤ 2147483648) (h2 : 0 ≤ a2) (g2 : a2 ≤ 2147483648) (hs : 1000000 < a0 + a1 + a2) :
    Calls Try.prog 8 #[.slice (some ⟨w.heap.size, 0, none⟩) 3 3] (w.alloc (.cells #[.int .i64 a0, .int .i64 a1, .int .i64 a2] 3)) fun e w' => e = .returned (.bool true) ∧ (w.alloc (.cells #[.int .i64 a0, .int .i64 a1, .int .i64 a2] 3)) = w' :=
  tooLong_yes w.heap.size 3 3 [a0, a1, a2] 3 (0, 0) _ (heap_alloc_new _ _) rfl (by omega) (by simp only [List.mem_cons, List.not_mem_nil, or_false, forall_eq_or_imp, forall_eq];  omega) (by simp only [List.sum_cons, List.sum_nil]; omega)
theorem tooLong_no4 (w : World) (a0 a1 a2 a3 : Int) (h0 : 0 ≤ a0) (h1 : 0 ≤ a1) (h2 : 0 ≤ a2) (h3 : 0 ≤ a3) (hs : a0 + a1 + a2 + a3 ≤ 1000000) :
    Calls Try.prog 8 #[.slice (some ⟨w.heap.size, 0, none⟩) 4 4] (w.alloc (.cells #[.int .i64 a0, .int .i64 a1, .int .i64 a2, .int .i64 a3] 3)) fun e w' => e = .returned (.bool false) ∧ (w.alloc (.cells #[.int .i64 a0, .int .i64 a1, .int .i64 a2, .int .i64 a3] 3)) = w' :=
  tooLong_no w.heap.size 4 4 [a0, a1, a2, a3] 3 (0, 0) _ (heap_alloc_new _ _) rfl (by omega) (by simp only [List.mem_cons, List.not_mem_nil, or_false, forall_eq_or_imp, forall_eq];  omega) (by simp only [List.sum_cons, List.sum_nil]; omega)
theorem tooLong_yes4 (w : World) (a0 a1 a2 a3 : Int) (h0 : 0 ≤ a0) (g0 : a0 ≤ 2147483648) (h1 : 0 ≤ a1) (g1 : a1 ≤ 2147483648) (h2 : 0 ≤ a2) (g2 : a2 ≤ 2147483648) (h3 : 0 ≤ a3) (g3 : a3 ≤ 2147483648) (hs : 1000000 < a0 + a1 + a2 + a3) :
    Calls Try.prog 8 #[.slice (some ⟨w.heap.size, 0, none⟩) 4 4] (w.alloc (.cells #[.int .i64 a0, .int .i64 a1, .int .i64 a2, .int .i64 a3] 3)) fun e w' => e = .returned (.bool true) ∧ (w.alloc (.cells #[.int .i64 a0, .int .i64 a1, .int .i64 a2, .int .i64 a3] 3)) = w' :=
  tooLong_yes w.heap.size 4 4 [a0, a1, a2, a3] 3 (0, 0) _ (heap_alloc_new _ _) rfl (by omega) (by simp only [List.mem_cons, List.not_mem_nil, or_false, forall_eq_or_imp, forall_eq];  omega) (by simp only [List.sum_cons, List.sum_nil]; omega)
theorem tooLong_no5 (w : World) (a0 a1 a2 a3 a4 : Int) (h0 : 0 ≤ a0) (h1 : 0 ≤ a1) (h2 : 0 ≤ a2) (h3 : 0 ≤ a3) (h4 : 0 ≤ a4) (hs : a0 + a1 + a2 + a3 + a4 ≤ 1000000) :
    Calls Try.prog 8 #[.slice (some ⟨w.heap.size, 0, none⟩) 5 5] (w.alloc (.cells #[.int .i64 a0, .int .i64 a1, .int .i64 a2, .int .i64 a3, .int .i64 a4] 3)) fun e w' => e = .returned (.bool false) ∧ (w.alloc (.cells #[.int .i64 a0, .int .i64 a1, .int .i64 a2, .int .i64 a3, .int .i64 a4] 3)) = w' :=
  tooLong_no w.heap.size 5 5 [a0, a1, a2, a3, a4] 3 (0, 0) _ (heap_alloc_new _ _) rfl (by omega) (by simp only [List.mem_cons, List.not_mem_nil, or_false, forall_eq_or_imp, forall_eq];  omega) (by simp only [List.sum_cons, List.sum_nil]; omega)
theorem tooLong_yes5 (w : World) (a0 a1 a2 a3 a4 : Int) (h0 : 0 ≤ a0) (g0 : a0 ≤ 2147483648) (h1 : 0 ≤ a1) (g1 : a1 ≤ 2147483648) (h2 : 0 ≤ a2) (g2 : a2 ≤ 2147483648) (h3 : 0 ≤ a3) (g3 : a3 ≤ 2147483648) (h4 : 0 ≤ a4) (g4 : a4 ≤ 2147483648) (hs : 1000000 < a0 + a1 + a2 + a3 + a4) :
    Calls Try.prog 8 #[.slice (some ⟨w.heap.size, 0, none⟩) 5 5] (w.alloc (.cells #[.int .i64 a0, .int .i64 a1, .int .i64 a2, .int .i64 a3, .int .i64 a4] 3)) fun e w' => e = .returned (.bool true) ∧ (w.alloc (.cells #[.int .i64 a0, .int .i64 a1, .int .i64 a2, .int .i64 a3, .int .i64 a4] 3)) = w' :=
  tooLong_yes w.heap.size 5 5 [a0, a1, a2, a3, a4] 3 (0, 0) _ (heap_alloc_new _ _) rfl (by omega) (by simp only [List.mem_cons, List.not_mem_nil, or_false, forall_eq_or_imp, forall_eq];  omega) (by simp only [List.sum_cons, List.sum_nil]; omega)
end Go.Proofs.Ytnjdckhaecdldaa
