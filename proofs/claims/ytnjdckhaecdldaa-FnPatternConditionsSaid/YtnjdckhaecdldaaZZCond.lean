/-
  The contract of (*Matcher).ZZConditions over a matcher that lies in a block of its own: the masks, the bits and the results of its conditions, each in a slice of the call's own. No condition but the sizes.
-/
import Derived.Test.YtnjdckhaecdldaaThree
import Derived.Test.YtnjdckhaecdldaaMatch
import Derived.Outline
import Derived.Deep.DeepCutAuto
import Derived.Deep.CutBlock
set_option linter.unusedVariables false
set_option linter.unusedSimpArgs false
namespace Go.Proofs.Ytnjdckhaecdldaa
open Go.RowKit Go.PlainAid Go.Lib

def maskC (l : List Cond) : List Value := l.map fun c => Value.int .u64 c.mask
def bitC (l : List Cond) : List Value := l.map fun c => Value.int .u64 c.bits
def resC (l : List Cond) : List Value := l.map fun c => Value.bool c.res
theorem take_one {α : Type} (l : List α) (k : Nat) (h : k < l.length) : l.take k ++ [l[k]] = l.take (k + 1) := by
  rw [List.take_succ_eq_append_getElem h]
theorem infoU64c : (Try.prog.info? 32).map (fun i => (i.zero, i.size, i.bytes)) = some (some (.int .u64 0), 1, 8) := by kernel_rfl
theorem infoBoolc : (Try.prog.info? 4).map (fun i => (i.zero, i.size, i.bytes)) = some (some (.bool false), 1, 1) := by kernel_rfl
def ZZPost (list : List Cond) (v q e : Bool) (w : World) (en : Ending) (w' : World) : Prop :=
  ∃ mv bv rv, en = .returned (.tuple #[mv, bv, rv, .bool v, .bool q, .bool e]) ∧ Row w' w.heap.size 1 mv list.length (maskC list) ∧ Row w' w.heap.size 1 bv list.length (bitC list) ∧ Row w' w.heap.size 1 rv list.length (resC list) ∧ Below w.heap.size w w'
/-- the three slices so far -/
structure ZZ (W : World) (list : List Cond) (k : Nat) (mv bv rv : Value) (w : World) : Prop where
  m : Row w W.heap.size 1 mv k (maskC (list.take k))
  b : Row w W.heap.size 1 bv k (bitC (list.take k))
  r : Row w W.heap.size 1 rv k (resC (list.take k))
  d1 : ∀ g, mv.ownBlock = some g → bv.ownBlock ≠ some g ∧ rv.ownBlock ≠ some g
  d2 : ∀ g, bv.ownBlock = some g → rv.ownBlock ≠ some g
  bel : Below W.heap.size W w
def f3 {α : Type} (x y z : α) : Fin 3 → α := fun i => match i with | 0 => x | 1 => y | 2 => z
def LS (p0 p1 p2 : Nat) : Array Bool := #[true, true, true, decide (1 ≤ p0), decide (2 ≤ p0), true, true, true, decide (1 ≤ p1), decide (2 ≤ p1), true, true, true, decide (1 ≤ p2), decide (2 ≤ p2), false, false, false]
def rsOf (p0 p1 p2 : Nat) : List Nat := (if p0 = 0 then [3] else if p0 = 1 then [4] else []) ++ ((if p1 = 0 then [8] else if p1 = 1 ∧ p0 = 2 then [9] else []) ++ (if p2 = 0 then [13] else if p2 = 1 ∧ p1 = 2 then [14] else []))
def Reach (p0 p1 p2 : Nat) : Prop := (p1 = 2 → p0 = 2) ∧ (p2 = 2 → p1 = 2)
theorem reach0 : Reach 0 0 0 := ⟨fun h => (by cases h), fun h => (by cases h)⟩
theorem rsOf_ne {p0 p1 p2 : Nat} (h0 : p0 ≤ 2) (h1 : p1 ≤ 2) (h2 : p2 ≤ 2) (h : p0 + p1 + p2 < 6) : rsOf p0 p1 p2 ≠ [] := by
  obtain rfl | rfl | rfl : p0 = 0 ∨ p0 = 1 ∨ p0 = 2 := by omega
  all_goals (obtain rfl | rfl | rfl : p1 = 0 ∨ p1 = 1 ∨ p1 = 2 := by omega)
  all_goals (obtain rfl | rfl | rfl : p2 = 0 ∨ p2 = 1 ∨ p2 = 2 := by omega)
  all_goals first | (exfalso; omega) | (simp [rsOf])
theorem mem_rs {p0 p1 p2 i : Nat} (h : i ∈ rsOf p0 p1 p2) : (p0 = 0 ∧ i = 3) ∨ (p0 = 1 ∧ i = 4) ∨ (p1 = 0 ∧ i = 8) ∨ (p1 = 1 ∧ p0 = 2 ∧ i = 9) ∨ (p2 = 0 ∧ i = 13) ∨ (p2 = 1 ∧ p1 = 2 ∧ i = 14) := by
  unfold rsOf at h
  rcases List.mem_append.1 h with h | h
  · split at h
    · simp at h; omega
    · split at h <;> simp at h; omega
  · rcases List.mem_append.1 h with h | h
    · split at h
      · simp at h; omega
      · split at h <;> simp at h; omega
    · split at h
      · simp at h; omega
      · split at h <;> simp at h; omega
theorem ch1 {B k : Nat} {e : TypeId} {v : Value} {xs : List Value} {c : Value} {s : Nat} {ub ua : Value} {w : World} (h : Ch B k e v xs c s ub ua w) (hs : s = 1) : Row w B 1 v k xs ∧ ∃ g, ub = .slice (some ⟨g, 0, none⟩) 1 1 ∧ w.heap[g]? = some (.cells #[c] e (0, 0)) := by
  subst hs; exact h
theorem tri_start {W w : World} {list : List Cond} {k : Nat} {u2 u3 u4 x y z : Value} (h : ZZ W list k u2 u3 u4 w) (t : TypeId) (e : Fin 3 → TypeId) (ub ua : Fin 3 → Value) :
    Tri W W.heap.size k w.heap.size (.cells #[x, y, z] t (0, 0)) e (f3 u2 u3 u4) (f3 (maskC (list.take k)) (bitC (list.take k)) (resC (list.take k))) (f3 x y z) (fun _ => 0) ub ua (w.alloc (.cells #[x, y, z] t)) := by
  have lo : ∀ i g, (f3 u2 u3 u4 i).ownBlock = some g → g < w.heap.size := fun i g hg => by
    match i with
    | 0 => exact h.m.blt g hg
    | 1 => exact h.b.blt g hg
    | 2 => exact h.r.blt g hg
  refine ⟨fun i => by omega, fun i => ?_, fun i g hg => ?_, fun i g hg => (by cases hg), fun i j g hij ha hb => ?_, fun i j g hij ha hb => (by cases hb), fun i hg => ?_, heap_alloc_new w _, h.bel.alloc h.bel.size _, ?_⟩
  · match i with
    | 0 => exact h.m.alloc _
    | 1 => exact h.b.alloc _
    | 2 => exact h.r.alloc _
  · have := lo i g hg; simp; omega
  · have ha' : (f3 u2 u3 u4 i).ownBlock = some g := ha
    have hb' : (f3 u2 u3 u4 j).ownBlock = some g := hb
    match i, j with
    | 0, 0 => exact hij rfl
    | 1, 1 => exact hij rfl
    | 2, 2 => exact hij rfl
    | 0, 1 => exact (h.d1 g ha').1 hb'
    | 0, 2 => exact (h.d1 g ha').2 hb'
    | 1, 0 => exact (h.d1 g hb').1 ha'
    | 2, 0 => exact (h.d1 g hb').2 ha'
    | 1, 2 => exact h.d2 g ha' hb'
    | 2, 1 => exact h.d2 g hb' ha'
  · have := lo i _ hg; omega
  · have := h.bel.size; simp; omega
theorem zz_of_tri {W w' : World} {list : List Cond} {k gc : Nat} {o : Obj} {e : Fin 3 → TypeId} {u2 u3 u4 : Value} {c : Fin 3 → Value} {s : Fin 3 → Nat} {ub ua : Fin 3 → Value}
    (h : Tri W W.heap.size k gc o e (f3 u2 u3 u4) (f3 (maskC (list.take k)) (bitC (list.take k)) (resC (list.take k))) c s ub ua w') (e0 : s 0 = 2) (e1 : s 1 = 2) (e2 : s 2 = 2)
    (ht : maskC (list.take k) ++ [c 0] = maskC (list.take (k + 1)) ∧ bitC (list.take k) ++ [c 1] = bitC (list.take (k + 1)) ∧ resC (list.take k) ++ [c 2] = resC (list.take (k + 1))) : ZZ W list (k + 1) (ua 0) (ua 1) (ua 2) w' := by
  have c0 := h.ch 0
  have c1 := h.ch 1
  have c2 := h.ch 2
  rw [e0] at c0
  rw [e1] at c1
  rw [e2] at c2
  have o0 : ownB (s 0) (f3 u2 u3 u4 0) (ua 0) = (ua 0).ownBlock := by rw [e0]; rfl
  have o1 : ownB (s 1) (f3 u2 u3 u4 1) (ua 1) = (ua 1).ownBlock := by rw [e1]; rfl
  have o2 : ownB (s 2) (f3 u2 u3 u4 2) (ua 2) = (ua 2).ownBlock := by rw [e2]; rfl
  refine ⟨by rw [← ht.1]; exact c0, by rw [← ht.2.1]; exact c1, by rw [← ht.2.2]; exact c2, fun g hg => ⟨?_, ?_⟩, fun g hg => ?_, h.bel⟩
  · rw [← o1]; exact h.dis 0 1 g (by decide) (by rw [o0]; exact hg)
  · rw [← o2]; exact h.dis 0 2 g (by decide) (by rw [o0]; exact hg)
  · rw [← o2]; exact h.dis 1 2 g (by decide) (by rw [o1]; exact hg)
set_option maxHeartbeats 4000000 in
set_option maxRecDepth 100000 in
theorem zzConditions_any (w : World) (b : Nat) (v q e : Bool) (sv : Value) (list : List Cond) (hm : MatAt w b v q e sv) (hr : Row w (b + 1) 3 sv list.length (condCells list)) (hl : list.length ≤ 8589934592) :
    Calls Try.prog 31 #[.pointer (some ⟨b, 0, none⟩)] w (ZZPost list v q e w) := by
  obtain ⟨i0, hi, hz0, hz1, hz2⟩ := info_parts infoU64c
  obtain ⟨i1, hj, hk0, hk1, hk2⟩ := info_parts infoBoolc
  have HM := Lib.hid hm
  have HR := Lib.hid hr
  obtain ⟨ao, cap, rfl⟩ := hr.shape
  obtain ⟨_, m0, m1, m2, m3⟩ := hm
  clear hr
  go_enter Try.func31, Try.ntmps31
  go_wp2
  go_loopw [2, 3, 4, 15] (fun mv bv rv iv wr => ∃ k : Nat, iv = .int .i64 (k : Int) ∧ k ≤ list.length ∧ Hid (ZZ w list k mv bv rv wr)) (fun _ _ _ iv _ => list.length - (intOf iv).toNat)
  case atStart => exact ⟨0, rfl, Nat.zero_le _, Row.nil _ _ _, Row.nil _ _ _, Row.nil _ _ _, fun g h => by simp [Value.ownBlock] at h, fun g h => by simp [Value.ownBlock] at h, Below.refl _ _⟩
  case round =>
    obtain ⟨k, rfl, hk, HZ⟩ := hrel
    have hbl := HM.out.lt
    have hMr : MatAt wr b v q e (.slice ao list.length cap) := HM.out.below HZ.out.bel hbl
    by_cases hlt : k < list.length
    · obtain ⟨g, o, c2, hv, hB, hglt, hcap, hcm, hx⟩ := HR.out.at_ (by omega) (by omega)
      simp only [Value.slice.injEq] at hv
      obtain ⟨rfl, _, rfl⟩ := hv
      obtain ⟨e1, e2, e3⟩ := condCells_at list k (by omega)
      have hc : ∀ j, wr.cell? ⟨g, j, none⟩ = w.cell? ⟨g, j, none⟩ := fun j => HZ.out.bel.cell (p := ⟨g, j, none⟩) hglt
      have x1 : wr.cell? ⟨g, o + k * 3, none⟩ = some (.int .u64 list[k].mask) := (hc _).trans ((hx _ (by omega)).trans e1)
      have x2 : wr.cell? ⟨g, o + k * 3 + 1, none⟩ = some (.int .u64 list[k].bits) := (hc _).trans ((hx (k * 3 + 1) (by omega)).trans e2)
      have x3 : wr.cell? ⟨g, o + k * 3 + 2, none⟩ = some (.bool list[k].res) := (hc _).trans ((hx (k * 3 + 2) (by omega)).trans e3)
      clear hx e1 e2 e3 hc
      have HT : Hid (maskC (list.take k) ++ [.int .u64 list[k].mask] = maskC (list.take (k + 1)) ∧ bitC (list.take k) ++ [.int .u64 list[k].bits] = bitC (list.take (k + 1)) ∧ resC (list.take k) ++ [.bool list[k].res] = resC (list.take (k + 1))) := by
        refine ⟨?_, ?_, ?_⟩
        · unfold maskC; rw [← take_one list k hlt, List.map_append]; rfl
        · unfold bitC; rw [← take_one list k hlt, List.map_append]; rfl
        · unfold resC; rw [← take_one list k hlt, List.map_append]; rfl
      generalize list[k] = c at *
      clear hMr m0 m1 m2 m3
      have HTRI : Hid (Tri w w.heap.size k wr.heap.size (.cells #[.int .u64 c.mask, .int .u64 c.bits, .bool c.res] 82 (0, 0)) (f3 32 32 4) (f3 u2 u3 u4) (f3 (maskC (list.take k)) (bitC (list.take k)) (resC (list.take k))) (f3 (.int .u64 c.mask) (.int .u64 c.bits) (.bool c.res)) (fun _ => 0) (f3 u22 u27 u32) (f3 u23 u28 u33) (wr.alloc (.cells #[.int .u64 c.mask, .int .u64 c.bits, .bool c.res] 82))) := tri_start HZ.out _ _ _ _
      have HTK := HT
      have HHEAP := Lib.hid (heap_alloc_new wr (.cells #[.int .u64 c.mask, .int .u64 c.bits, .bool c.res] 82))
      have m63 : k + 1 ≤ maxLen := by unfold maxLen; omega
      have m8 : (k + 1) * 8 ≤ 140737488355328 := by omega
      have m1 : (k + 1) * 1 ≤ 140737488355328 := by omega
      go_wp2
      refine wp_region_held_drew (S := fun w' => w'.cell? ⟨wr.heap.size, 0, none⟩ = some (.int .u64 c.mask) ∧ w'.cell? ⟨wr.heap.size, 1, none⟩ = some (.int .u64 c.bits) ∧ w'.cell? ⟨wr.heap.size, 2, none⟩ = some (.bool c.res)) (by kernel_rfl) ?hS (fun hHeld => ?_)
      case hS => exact ⟨cell_of_row _ _ _ _ _ _ HHEAP.out, cell_of_row _ _ _ _ _ _ HHEAP.out, cell_of_row _ _ _ _ _ _ HHEAP.out⟩
      generalize wr.alloc (.cells #[.int .u64 c.mask, .int .u64 c.bits, .bool c.res] 82) = W1 at *
      -- REGION
      refine wpAnyH_take (i := 0) (oi := _) (v := u2) rfl (by kernel_rfl) (by kernel_rfl) (by kernel_rfl) (fun _ _ _ h => h) (Or.inl ⟨by rfl, ?_⟩) (by assumption) ?_
      · intro w9 hSw; (try dsimp only at hSw); go_simp
      simp only [Act.put, List.setIfInBounds_toArray, List.set_cons_zero, List.set_cons_succ]
      refine wpAnyH_take (i := 1) (oi := _) (v := .pointer (some ⟨wr.heap.size, 0, none⟩)) rfl (by kernel_rfl) (by kernel_rfl) (by kernel_rfl) (fun _ _ _ h => h) (Or.inl ⟨by rfl, ?_⟩) (by assumption) ?_
      · intro w9 hSw; (try dsimp only at hSw); go_simp
      simp only [Act.put, List.setIfInBounds_toArray, List.set_cons_zero, List.set_cons_succ]
      refine wpAnyH_take (i := 2) (oi := _) (v := .int .u64 c.mask) rfl (by kernel_rfl) (by kernel_rfl) (by kernel_rfl) (fun _ _ _ h => h) (Or.inl ⟨by rfl, ?_⟩) (by assumption) ?_
      · intro w9 hSw; (try dsimp only at hSw); go_simp
      simp only [Act.put, List.setIfInBounds_toArray, List.set_cons_zero, List.set_cons_succ]
      refine wpAnyH_take (i := 5) (oi := _) (v := u3) rfl (by kernel_rfl) (by kernel_rfl) (by kernel_rfl) (fun _ _ _ h => h) (Or.inl ⟨by rfl, ?_⟩) (by assumption) ?_
      · intro w9 hSw; (try dsimp only at hSw); go_simp
      simp only [Act.put, List.setIfInBounds_toArray, List.set_cons_zero, List.set_cons_succ]
      refine wpAnyH_take (i := 6) (oi := _) (v := .pointer (some ⟨wr.heap.size, 1, none⟩)) rfl (by kernel_rfl) (by kernel_rfl) (by kernel_rfl) (fun _ _ _ h => h) (Or.inl ⟨by rfl, ?_⟩) (by assumption) ?_
      · intro w9 hSw; (try dsimp only at hSw); go_simp
      simp only [Act.put, List.setIfInBounds_toArray, List.set_cons_zero, List.set_cons_succ]
      refine wpAnyH_take (i := 7) (oi := _) (v := .int .u64 c.bits) rfl (by kernel_rfl) (by kernel_rfl) (by kernel_rfl) (fun _ _ _ h => h) (Or.inl ⟨by rfl, ?_⟩) (by assumption) ?_
      · intro w9 hSw; (try dsimp only at hSw); go_simp
      simp only [Act.put, List.setIfInBounds_toArray, List.set_cons_zero, List.set_cons_succ]
      refine wpAnyH_take (i := 10) (oi := _) (v := u4) rfl (by kernel_rfl) (by kernel_rfl) (by kernel_rfl) (fun _ _ _ h => h) (Or.inl ⟨by rfl, ?_⟩) (by assumption) ?_
      · intro w9 hSw; (try dsimp only at hSw); go_simp
      simp only [Act.put, List.setIfInBounds_toArray, List.set_cons_zero, List.set_cons_succ]
      refine wpAnyH_take (i := 11) (oi := _) (v := .pointer (some ⟨wr.heap.size, 2, none⟩)) rfl (by kernel_rfl) (by kernel_rfl) (by kernel_rfl) (fun _ _ _ h => h) (Or.inl ⟨by rfl, ?_⟩) (by assumption) ?_
      · intro w9 hSw; (try dsimp only at hSw); go_simp
      simp only [Act.put, List.setIfInBounds_toArray, List.set_cons_zero, List.set_cons_succ]
      refine wpAnyH_take (i := 12) (oi := _) (v := .bool c.res) rfl (by kernel_rfl) (by kernel_rfl) (by kernel_rfl) (fun _ _ _ h => h) (Or.inl ⟨by rfl, ?_⟩) (by assumption) ?_
      · intro w9 hSw; (try dsimp only at hSw); go_simp
      simp only [Act.put, List.setIfInBounds_toArray, List.set_cons_zero, List.set_cons_succ]
      refine wpAnyH_inv (I := fun n listed a' w' => ∃ (s : Fin 3 → Nat) (ub ua : Fin 3 → Value), s 0 + s 1 + s 2 + n = 6 ∧ Reach (s 0) (s 1) (s 2) ∧ listed = LS (s 0) (s 1) (s 2) ∧ a' = ⟨#[.pointer (some ⟨b, 0, none⟩), undef, u2, u3, u4, .bool false, .bool false, .bool false, undef, .pointer (some ⟨wr.heap.size, 0, none⟩), .pointer (some ⟨b, 0, none⟩), .pointer (some ⟨b, 0, none⟩), .pointer (some ⟨b, 3, none⟩), .slice (some ⟨g, o, none⟩) list.length cap, .int .i64 (list.length : Int), .int .i64 (k : Int), .bool true, .pointer (some ⟨g, o + k * 3, none⟩), .agg #[.int .u64 c.mask, .int .u64 c.bits, .bool c.res], u2, .pointer (some ⟨wr.heap.size, 0, none⟩), .int .u64 c.mask, ub 0, ua 0, u3, .pointer (some ⟨wr.heap.size, 1, none⟩), .int .u64 c.bits, ub 1, ua 1, u4, .pointer (some ⟨wr.heap.size, 2, none⟩), .bool c.res, ub 2, ua 2, u34, undef, undef, undef, undef, undef, undef, undef, undef, undef, undef, undef, undef, undef, undef, undef], []⟩ ∧ Tri w w.heap.size k wr.heap.size (.cells #[.int .u64 c.mask, .int .u64 c.bits, .bool c.res] 82 (0, 0)) (f3 32 32 4) (f3 u2 u3 u4) (f3 (maskC (list.take k)) (bitC (list.take k)) (resC (list.take k))) (f3 (.int .u64 c.mask) (.int .u64 c.bits) (.bool c.res)) s ub ua w') 3 ?hb ?hs 6 _ _ _ ⟨fun _ => 0, f3 u22 u27 u32, f3 u23 u28 u33, rfl, reach0, by kernel_rfl, rfl, HTRI.out.drew⟩
      case hs =>
        rintro n listed a' w' ⟨s, ub, ua, hn, hre, rfl, rfl, hT⟩
        have hSall : ∀ (s : Fin 3 → Nat) (ub ua : Fin 3 → Value) (w' : World), Tri w w.heap.size k wr.heap.size (.cells #[.int .u64 c.mask, .int .u64 c.bits, .bool c.res] 82 (0, 0)) (f3 32 32 4) (f3 u2 u3 u4) (f3 (maskC (list.take k)) (bitC (list.take k)) (resC (list.take k))) (f3 (.int .u64 c.mask) (.int .u64 c.bits) (.bool c.res)) s ub ua w' → w'.cell? ⟨wr.heap.size, 0, none⟩ = some (.int .u64 c.mask) ∧ w'.cell? ⟨wr.heap.size, 1, none⟩ = some (.int .u64 c.bits) ∧ w'.cell? ⟨wr.heap.size, 2, none⟩ = some (.bool c.res) := fun _ _ _ _ h => ⟨cell_of_row _ _ _ _ _ _ h.cel, cell_of_row _ _ _ _ _ _ h.cel, cell_of_row _ _ _ _ _ _ h.cel⟩
        have hgl : wr.heap.size < w'.heap.size := World.block_lt_of_cell? w' ⟨wr.heap.size, 0, none⟩ (hSall _ _ _ _ hT).1
        have h0 := hT.two 0
        have h1 := hT.two 1
        have h2 := hT.two 2
        refine ⟨rsOf (s 0) (s 1) (s 2), ?_, ?_, ?_⟩
        · clear hSall hT hgl
          revert hn h0 h1 h2 hre
          generalize s 0 = p0
          generalize s 1 = p1
          generalize s 2 = p2
          intro hn hre h0 h1 h2
          obtain rfl | rfl | rfl : p0 = 0 ∨ p0 = 1 ∨ p0 = 2 := by omega
          all_goals (obtain rfl | rfl | rfl : p1 = 0 ∨ p1 = 1 ∨ p1 = 2 := by omega)
          all_goals (obtain rfl | rfl | rfl : p2 = 0 ∨ p2 = 1 ∨ p2 = 2 := by omega)
          all_goals first | (exfalso; omega) | (exact absurd (hre.1 rfl) (by decide)) | (exact absurd (hre.2 rfl) (by decide)) | kernel_rfl
        · exact rsOf_ne h0 h1 h2 (by omega)
        intro i hmi
        have HSA := Lib.hid hSall
        clear hSall
        rcases mem_rs hmi with ⟨e0, rfl⟩ | ⟨e0, rfl⟩ | ⟨e0, rfl⟩ | ⟨e0, e9, rfl⟩ | ⟨e0, rfl⟩ | ⟨e0, e9, rfl⟩
        · refine wpOp_step (o := _) rfl (fun K' hK => ?_)
          have HK := Lib.hid hK
          clear hK
          rw [if_pos (by rfl)]
          go_simp
          have hN := hT.build 0 e0 hgl
          exact HK.out _ _ ⟨HSA.out _ _ _ _ hN, _, _, _, by rw [← hn]; simp [upd, e0]; omega, by unfold Reach at *; simp [upd]; omega, by simp [upd, e0, LS], rfl, hN⟩
        · refine wpOp_step (o := _) rfl (fun K' hK => ?_)
          have HK := Lib.hid hK
          clear hK
          rw [if_pos (by rfl)]
          obtain ⟨hrow, gb, hub, hblk⟩ := ch1 (hT.ch 0) e0
          refine step_append_own1 (.tmp 19) (.tmp 22) 41 (by rfl) w.heap.size 32 i0 (.int .u64 0) 8 Try.underlying41 hi hz0 hz1 hz2 rfl _ k _ hrow (by rfl) gb _ hub hblk rfl m63 m8 hT.siz fun v' w1 q1 q2 q3 => ?_
          have hN := hT.app 0 e0 q1 q2 q3 hgl
          exact HK.out _ _ ⟨HSA.out _ _ _ _ hN, _, _, _, by rw [← hn]; simp [upd, e0]; omega, by unfold Reach at *; simp [upd]; omega, by simp [upd, e0, LS], rfl, hN⟩
        · refine wpOp_step (o := _) rfl (fun K' hK => ?_)
          have HK := Lib.hid hK
          clear hK
          rw [if_pos (by rfl)]
          go_simp
          have hN := hT.build 1 e0 hgl
          exact HK.out _ _ ⟨HSA.out _ _ _ _ hN, _, _, _, by rw [← hn]; simp [upd, e0]; omega, by unfold Reach at *; simp [upd]; omega, by simp [upd, e0, LS], rfl, hN⟩
        · refine wpOp_step (o := _) rfl (fun K' hK => ?_)
          have HK := Lib.hid hK
          clear hK
          rw [if_pos (by rfl)]
          obtain ⟨hrow, gb, hub, hblk⟩ := ch1 (hT.ch 1) e0
          refine step_append_own1 (.tmp 24) (.tmp 27) 41 (by rfl) w.heap.size 32 i0 (.int .u64 0) 8 Try.underlying41 hi hz0 hz1 hz2 rfl _ k _ hrow (by rfl) gb _ hub hblk rfl m63 m8 hT.siz fun v' w1 q1 q2 q3 => ?_
          have hN := hT.app 1 e0 q1 q2 q3 hgl
          exact HK.out _ _ ⟨HSA.out _ _ _ _ hN, _, _, _, by rw [← hn]; simp [upd, e0]; omega, by unfold Reach at *; simp [upd]; omega, by simp [upd, e0, LS], rfl, hN⟩
        · refine wpOp_step (o := _) rfl (fun K' hK => ?_)
          have HK := Lib.hid hK
          clear hK
          rw [if_pos (by rfl)]
          go_simp
          have hN := hT.build 2 e0 hgl
          exact HK.out _ _ ⟨HSA.out _ _ _ _ hN, _, _, _, by rw [← hn]; simp [upd, e0]; omega, by unfold Reach at *; simp [upd]; omega, by simp [upd, e0, LS], rfl, hN⟩
        · refine wpOp_step (o := _) rfl (fun K' hK => ?_)
          have HK := Lib.hid hK
          clear hK
          rw [if_pos (by rfl)]
          obtain ⟨hrow, gb, hub, hblk⟩ := ch1 (hT.ch 2) e0
          refine step_append_own1 (.tmp 29) (.tmp 32) 42 (by rfl) w.heap.size 4 i1 (.bool false) 1 Try.underlying42 hj hk0 hk1 hk2 rfl _ k _ hrow (by rfl) gb _ hub hblk rfl m63 m1 hT.siz fun v' w1 q1 q2 q3 => ?_
          have hN := hT.app 2 e0 q1 q2 q3 hgl
          exact HK.out _ _ ⟨HSA.out _ _ _ _ hN, _, _, _, by rw [← hn]; simp [upd, e0]; omega, by unfold Reach at *; simp [upd]; omega, by simp [upd, e0, LS], rfl, hN⟩
      case hb =>
        rintro listed a' w' ⟨s, ub, ua, hn, hre, rfl, rfl, hT⟩
        have h0 := hT.two 0
        have h1 := hT.two 1
        have h2 := hT.two 2
        have e0 : s 0 = 2 := by omega
        have e1 : s 1 = 2 := by omega
        have e2 : s 2 = 2 := by omega
        have hS2 : w'.cell? ⟨wr.heap.size, 0, none⟩ = some (.int .u64 c.mask) ∧ w'.cell? ⟨wr.heap.size, 1, none⟩ = some (.int .u64 c.bits) ∧ w'.cell? ⟨wr.heap.size, 2, none⟩ = some (.bool c.res) := ⟨cell_of_row _ _ _ _ _ _ hT.cel, cell_of_row _ _ _ _ _ _ hT.cel, cell_of_row _ _ _ _ _ _ hT.cel⟩
        rw [e0, e1, e2]
        have HZ1 : Hid (ZZ w list (k + 1) (ua 0) (ua 1) (ua 2) w') := zz_of_tri hT e0 e1 e2 HTK.out
        clear hT h0 h1 h2 e0 e1 e2 hn
        refine wpAnyH_take (i := 15) (oi := _) (v := ua 0) rfl (by kernel_rfl) (by kernel_rfl) (by kernel_rfl) (fun _ _ _ h => h) (Or.inl ⟨by rfl, ?_⟩) (by assumption) ?_
        · intro w9 hSw; (try dsimp only at hSw); go_simp
        simp only [Act.put, List.setIfInBounds_toArray, List.set_cons_zero, List.set_cons_succ]
        refine wpAnyH_take (i := 16) (oi := _) (v := ua 1) rfl (by kernel_rfl) (by kernel_rfl) (by kernel_rfl) (fun _ _ _ h => h) (Or.inl ⟨by rfl, ?_⟩) (by assumption) ?_
        · intro w9 hSw; (try dsimp only at hSw); go_simp
        simp only [Act.put, List.setIfInBounds_toArray, List.set_cons_zero, List.set_cons_succ]
        refine wpAnyH_take (i := 17) (oi := _) (v := ua 2) rfl (by kernel_rfl) (by kernel_rfl) (by kernel_rfl) (fun _ _ _ h => h) (Or.inl ⟨by rfl, ?_⟩) (by assumption) ?_
        · intro w9 hSw; (try dsimp only at hSw); go_simp
        simp only [Act.put, List.setIfInBounds_toArray, List.set_cons_zero, List.set_cons_succ]
        refine wpAnyH_done (by kernel_rfl) ?_ _
        generalize ua 0 = y0 at *
        generalize ua 1 = y1 at *
        generalize ua 2 = y2 at *
        generalize ub 0 = z0 at *
        generalize ub 1 = z1 at *
        generalize ub 2 = z2 at *
        clear hS2 hHeld
        go_wp2
        go_roundw
        case rel => exact ⟨k + 1, by go_num, by omega, HZ1⟩
        case measure => simp [intOf]; omega
      -- END
    · obtain rfl : k = list.length := by omega
      obtain ⟨_, m0', m1', m2', m3'⟩ := hMr
      clear m0 m1 m2 m3
      go_wp2
      go_quiet (fail)
      go_wp2
      have hz := HZ.out
      refine bodyPost_ret (v := .tuple #[u2, u3, u4, .bool v, .bool q, .bool e]) (by simp [results, Try.results31, go_sem]) rfl ⟨_, _, _, rfl, ?_, ?_, ?_, below_drewN hz.bel _⟩
      · have := hz.m; rw [List.take_length] at this; exact this.drewN _
      · have := hz.b; rw [List.take_length] at this; exact this.drewN _
      · have := hz.r; rw [List.take_length] at this; exact this.drewN _
end Go.Proofs.Ytnjdckhaecdldaa
