/-
  A law on the builtin copy over a row of steps, and the contract of spec.Sorted. For every list of steps.
-/
import Derived.Test.YtboiigeomgdkjaaApart
import Derived.Deep.QuietTactic
import Derived.BigQuiet
import Derived.IntWalk
set_option linter.unusedVariables false
set_option maxHeartbeats 2000000
set_option maxRecDepth 100000
namespace Go.Proofs.Ytboiigeomgdkjaa
open Go.RowKit Go.PlainAid Go.Lib

/-- the places behind k taken one on, up to m -/
def shf (f : Nat → St) (m k : Nat) : Nat → St := fun x => if k < x ∧ x ≤ m then f (x - 1) else f x
theorem shf_put (f : Nat → St) (m k : Nat) : (fun x => if x = k then f m else shf f m k x) = dnf f m k := by
  funext x; unfold shf dnf; repeat' split
  all_goals first | rfl | omega
theorem setRow_size (w : World) (g : Nat) (c : Array Value) : (w.setRow g c).heap.size = w.heap.size := by simp [World.setRow]
theorem gb_setRow {w : World} {g : Nat} {cur c : Array Value} {E : TypeId} {fr : Nat × Nat} (hg : w.heap[g]? = some (.cells cur E fr)) (hc : c.size = cur.size) : GB w (w.setRow g c) g :=
  ⟨⟨rfl, rfl, rfl, by rw [setRow_size]; exact Nat.le_refl _, fun k _ hk => setRow_other w g k c (fun e => hk (by rw [e]))⟩, fun cur' e' fr' h => by
    rw [hg] at h; cases h; exact ⟨c, setRow_heap w g cur c E fr hg, hc⟩⟩
theorem cell_setRow {w : World} {g : Nat} {cur c : Array Value} {E : TypeId} (hg : w.heap[g]? = some (.cells cur E (0, 0))) (j : Nat) : (w.setRow g c).cell? ⟨g, j, none⟩ = c[j]? := cell_of_row _ g j c E (0, 0) (setRow_heap w g cur c E (0, 0) hg)
theorem frozen_setRow {w : World} {g : Nat} {cur c : Array Value} {E : TypeId} (hg : w.heap[g]? = some (.cells cur E (0, 0))) (j : Nat) : (w.setRow g c).frozen? ⟨g, j, none⟩ = false := frozen_of_row _ g j c E (setRow_heap w g cur c E (0, 0) hg)
theorem nth3 {f : Nat → St} {n : Nat} {w : World} {g : Nat} {cur : Array Value} {E : TypeId} (hq : Q w g 0 n f) (hg : w.heap[g]? = some (.cells cur E (0, 0))) (i j : Nat) (hi : i < n) (hj : j < 3) : cur[i * 3 + j]? = (stC (f i))[j]? := by
  obtain ⟨a1, a2, a3, _⟩ := hq.2 i hi
  simp only [Nat.zero_add] at a1 a2 a3
  rcases (show j = 0 ∨ j = 1 ∨ j = 2 by omega) with rfl | rfl | rfl
  · rw [← cell_of_row w g _ cur E (0, 0) hg, Nat.add_zero, a1]; rfl
  · rw [← cell_of_row w g _ cur E (0, 0) hg, a2]; rfl
  · rw [← cell_of_row w g _ cur E (0, 0) hg, a3]; rfl
theorem q_of {f : Nat → St} {n : Nat} {w : World} {g : Nat} {c : Array Value} {E : TypeId} (hg : w.heap[g]? = some (.cells c E (0, 0))) (h : ∀ i j, i < n → j < 3 → c[i * 3 + j]? = (stC (f i))[j]?) : Q w g 0 n f := by
  refine ⟨(Array.getElem?_eq_some_iff.1 hg).1, fun i hi => ?_⟩
  have hf := fun j => frozen_of_row w g j c E hg
  simp only [Nat.zero_add]
  refine ⟨?_, ?_, ?_, hf _, hf _, hf _⟩
  · rw [cell_of_row w g _ c E (0, 0) hg]; exact (h i 0 hi (by omega)).trans rfl
  · rw [cell_of_row w g _ c E (0, 0) hg]; exact (h i 1 hi (by omega)).trans rfl
  · rw [cell_of_row w g _ c E (0, 0) hg]; exact (h i 2 hi (by omega)).trans rfl
/-- copy(list[at+1:], list[at:]) -/
theorem run_copy_steps {P : Program} (w : World) (dT sT ty elem : TypeId) (hu : P.underlying dT = some (.slice elem)) (hs : (P.info? elem).map (·.size) = some 3)
    (g k at_ n : Nat) (f : Nat → St) (hk : at_ ≤ k) (hn : n = k + 1) (hq : Q w g 0 n f) (cur : Array Value) (E : TypeId) (hg : w.heap[g]? = some (.cells cur E (0, 0))) (hcs : n * 3 ≤ cur.size)
    (dp sp : Option Addr) (dc sc : Nat) (hdp : dp.isSome = true) (hsp : sp.isSome = true) (hpos : at_ < k → dp = some ⟨g, (at_ + 1) * 3, none⟩ ∧ sp = some ⟨g, at_ * 3, none⟩) :
    ∃ w', (Builtin.copy_ #[dT, sT] ty #[.slice dp (n - (at_ + 1)) dc, .slice sp (n - at_) sc]).run P w = .ok (goInt (k - at_)) w' ∧ Q w' g 0 n (shf f k at_) ∧ GB w w' g := by
  obtain ⟨da, rfl⟩ := Option.isSome_iff_exists.1 hdp
  obtain ⟨sa, rfl⟩ := Option.isSome_iff_exists.1 hsp
  have hmin : Nat.min (n - at_) (n - (at_ + 1)) = k - at_ := by subst hn; show min _ _ = _; omega
  cases hq2 : P.info? elem with
  | none => simp [hq2] at hs
  | some i =>
    have hi : i.size = 3 := by simpa [hq2] using hs
    by_cases h0 : at_ = k
    · subst h0
      refine ⟨w, ?_, ?_, grow_refl _ _⟩
      · have hl := run_loadCells_list (P := P) w sa [] (by simp)
        simp only [List.length_nil] at hl
        simp [Builtin.copy_, run_underlying hu, Builtin.lenOf, Builtin.firstCells, sizeOf, typeInfo, hq2, hmin, hl, storeCells]
      · refine hq.congr fun x hx => ?_
        unfold shf; rw [if_neg (by omega)]
    · obtain ⟨e1, e2⟩ := hpos (by omega)
      injection e1 with e1
      injection e2 with e2
      subst e1 e2
      have hc1 : (((cur.toList.drop (at_ * 3)).take ((k - at_) * 3)).length) = (k - at_) * 3 := by
        rw [List.length_take, List.length_drop, Array.length_toList]; omega
      have hl := run_loadCells_list (P := P) w ⟨g, at_ * 3, none⟩ ((cur.toList.drop (at_ * 3)).take ((k - at_) * 3)) (fun j v hj => by
        have hjl : j < (k - at_) * 3 := by
          have := (List.getElem?_eq_some_iff.1 hj).1
          rwa [hc1] at this
        rw [Addr.add_lit, cell_of_row w g _ cur E (0, 0) hg, ← hj, List.getElem?_take, if_pos hjl, List.getElem?_drop, Array.getElem?_toList])
      rw [hc1] at hl
      have hst := run_storeCells_at P g ((at_ + 1) * 3) E ((cur.toList.drop (at_ * 3)).take ((k - at_) * 3)) 0 cur w hg (by rw [hc1]; omega) (fun v hv => by
        obtain ⟨j, hj, rfl⟩ := List.mem_iff_getElem.1 hv
        rw [hc1] at hj
        have hv2 : ((cur.toList.drop (at_ * 3)).take ((k - at_) * 3))[j]? = cur[at_ * 3 + j]? := by rw [List.getElem?_take, if_pos hj, List.getElem?_drop, Array.getElem?_toList]
        rw [List.getElem?_eq_getElem (by rw [hc1]; exact hj)] at hv2
        have h3 := nth3 hq hg ((at_ * 3 + j) / 3) ((at_ * 3 + j) % 3) (by omega) (by omega)
        rw [show (at_ * 3 + j) / 3 * 3 + (at_ * 3 + j) % 3 = at_ * 3 + j by omega, ← hv2] at h3
        exact stC_one _ _ (List.mem_of_getElem? h3.symm))
      simp only [Nat.add_zero, hc1] at hst
      have hw := setRow_heap w g cur (cur.toList.take ((at_ + 1) * 3) ++ (cur.toList.drop (at_ * 3)).take ((k - at_) * 3) ++ cur.toList.drop ((at_ + 1) * 3 + (k - at_) * 3)).toArray E (0, 0) hg
      refine ⟨_, ?_, q_of hw (fun i j hi2 hj => ?_), gb_setRow hg ?_⟩
      · simp [Builtin.copy_, run_underlying hu, Builtin.lenOf, Builtin.firstCells, sizeOf, typeInfo, hq2, hi, hmin, hl]
        rw [hst, Result.andThen_ok, List.append_assoc, show ((k - at_ : Nat) : Int) = (k : Int) - at_ by omega]
      · have hlen1 : (cur.toList.take ((at_ + 1) * 3)).length = (at_ + 1) * 3 := by rw [List.length_take, Array.length_toList]; omega
        rw [List.getElem?_toArray, List.append_assoc]
        unfold shf
        by_cases hx : i ≤ at_
        · rw [if_neg (by omega), List.getElem?_append_left (by rw [hlen1]; omega), List.getElem?_take, if_pos (by omega), Array.getElem?_toList]
          exact nth3 hq hg i j hi2 hj
        · rw [if_pos (by omega), List.getElem?_append_right (by rw [hlen1]; omega), hlen1, List.getElem?_append_left (by rw [hc1]; omega), List.getElem?_take, if_pos (by omega), List.getElem?_drop, Array.getElem?_toList]
          have := nth3 hq hg (i - 1) j (by omega) hj
          rw [← this]
          congr 1
          omega
      · simp only [List.size_toArray, List.length_append, List.length_take, List.length_drop, Array.length_toList]; omega
theorem wpList_copy_at {P : Program} {w : World} {ops : Array Oper} {rest : List Oper} {o : Oper} {a : Act} {Q : Exit → Act → World → Prop} (hgd : o.guard = none) (d s : Operand) (dT sT : TypeId)
    (ho : o.op = .call { callee := .builtin .copy, args := #[d, s], argTypes := #[dT, sT] }) (dv sv : Value) (hd : a.eval d = dv) (hs : a.eval s = sv) (v' : Value) (w' : World)
    (hrun : (Builtin.copy_ #[dT, sT] o.type #[dv, sv]).run P w = .ok v' w') (h : wpList P ops Q rest (a.put o.dst v') w') : wpList P ops Q (o :: rest) a w := by
  refine wpList_plain hgd fun K hK => ?_
  unfold Oper.wp
  simp [execOp, ho, resolve, invoke, builtin, hd, hs, hrun, Result.andThen]
  exact hK _ _ h
theorem infoStep : (Try.prog.info? 33).map (fun i => (i.zero, i.size, i.bytes)) = some (some (.agg #[.int .i64 0, .int .i64 0, .string ByteArray.empty]), 3, 32) := by kernel_rfl
theorem infoStep3 : (Try.prog.info? 33).map (·.size) = some 3 := by kernel_rfl
theorem steps_tail (g n c l : Nat) (hn : l ≤ n) (hnc : n ≤ c) : ∃ dp dc, dp.isSome = true ∧ (l < n → dp = some ⟨g, l * 3, none⟩) ∧ ∀ w', (Instr.slice 27 (.slice (some ⟨g, 0, none⟩) n c) (some (.int .i64 (l : Int))) none none).run Try.prog w' = .ok (.slice dp (n - l) dc) w' := by
  refine ⟨if c = l then some ⟨g, 0, none⟩ else some ⟨g, l * 3, none⟩, c - l, by split <;> rfl, fun h => by rw [if_neg (by omega)], fun w' => ?_⟩
  have hs : (sizeOf (Try.prog.elem 27)).run Try.prog w' = .ok 3 w' := by kernel_rfl
  rw [run_slice_l w' 27 _ n c rfl .i64 l (by omega) (by omega), hs]
  simp only [Result.andThen, sliced, Int.toNat_natCast, Option.map_some, Addr.add_lit, Nat.zero_add]
/-- three cells written, at the head of a block -/
def put0 (w : World) (g i : Nat) (z : St) : World := ((w.setCell ⟨g, i * 3, none⟩ (.int .i64 z.1)).setCell ⟨g, i * 3 + 1, none⟩ (.int .i64 z.2.1)).setCell ⟨g, i * 3 + 2, none⟩ (.string z.2.2)
theorem put0_eq (w : World) (g i : Nat) (z : St) : put0 w g i z = put3 w g 0 i z := by unfold put0 put3; simp only [Nat.zero_add]
theorem fnl_snoc (l : List St) (z : St) : fnl (l ++ [z]) l.length = z := by rw [fnl_append, if_neg (by omega), Nat.sub_self]; rfl
theorem fnl_snoc_lt (l : List St) (z : St) {x : Nat} (h : x < l.length) : fnl (l ++ [z]) x = fnl l x := by rw [fnl_append, if_pos h]
theorem fnl_out (l : List St) {x : Nat} (h : l.length ≤ x) : fnl l x = (0, 0, ⟨#[]⟩) := by unfold fnl; rw [List.getD, List.getElem?_eq_none h]; rfl
theorem fnl_tab_all {g : Nat → St} {n : Nat} (h : ∀ x, n ≤ x → g x = (0, 0, ⟨#[]⟩)) : fnl (tab g n) = g := by
  funext x
  by_cases hx : x < n
  · exact fnl_tab g hx
  · rw [fnl_out _ (by rw [tab_len]; omega), h x (by omega)]
theorem mv_snoc {l m : List St} (z : St) (hl : l.length = m.length) (h : Mv 0 m.length (fnl m) (fnl l)) : Mv 0 (m.length + 1) (fnl (m ++ [z])) (fnl (l ++ [z])) := by
  obtain ⟨s, t, e1, e2, e3, e4⟩ := h
  refine ⟨s, t, fun x => ?_, e2, e3, fun x hx => e4 x (by omega)⟩
  by_cases hx : x < m.length
  · have := (Mv.inside e3 e4 (Nat.zero_le _) hx).2
    rw [fnl_snoc_lt _ _ (by omega), fnl_snoc_lt _ _ this, e1]
  · rw [e4 x (by omega), fnl_append, fnl_append, if_neg (by omega), if_neg (by omega), hl]
/-- the list behind one round -/
def insL (l : List St) (z : St) (at_ : Nat) : List St := tab (dnf (fnl (l ++ [z])) l.length at_) (l.length + 1)
theorem insL_fnl (l : List St) (z : St) {at_ : Nat} (h : at_ ≤ l.length) : fnl (insL l z at_) = dnf (fnl (l ++ [z])) l.length at_ := by
  refine fnl_tab_all fun x hx => ?_
  unfold dnf
  rw [if_neg (by omega), if_neg (by omega)]
  exact fnl_out _ (by simp; omega)
theorem insL_ok {l m : List St} {z : St} {at_ : Nat} (hl : l.length = m.length) (hm : Mv 0 m.length (fnl m) (fnl l)) (hs : Srt ltS 0 l.length (fnl l)) (ha : at_ ≤ l.length) (h1 : 0 < at_ → ltS z (fnl l (at_ - 1)) = false) (h2 : ∀ x, at_ ≤ x → x < l.length → ltS z (fnl l x) = true) :
    Mv 0 (m ++ [z]).length (fnl (m ++ [z])) (fnl (insL l z at_)) ∧ Srt ltS 0 (insL l z at_).length (fnl (insL l z at_)) := by
  rw [insL_fnl l z ha, show (m ++ [z]).length = m.length + 1 by simp, show (insL l z at_).length = l.length + 1 by simp [insL, tab_len]]
  refine ⟨?_, ?_⟩
  · have := Mv.dnf (fnl (l ++ [z])) ha
    rw [hl] at this ⊢
    exact (mv_snoc z hl hm).trans this
  · refine dn_srt ordS (hs.congr fun k _ hk => fnl_snoc_lt _ _ hk) (Nat.zero_le _) ha (fun h => ?_) (fun x hx hx2 => ?_)
    · rw [fnl_snoc, fnl_snoc_lt _ _ (by omega)]; exact h1 h
    · rw [fnl_snoc, fnl_snoc_lt _ _ hx2]; exact h2 x hx hx2

theorem owns_head {w : World} {B size n : Nat} {e : TypeId} {v : Value} {xs : List Value} (h : w.ownsRow B e size v n xs) (h0 : 0 < n) : ∃ g c, v = .slice (some ⟨g, 0, none⟩) n c := by
  rcases h.2 with ⟨_, h2⟩ | ⟨g, cap, cur, rfl, _⟩
  · omega
  · exact ⟨g, cap, rfl⟩
theorem own_ne {v : Value} {B S N g n c : Nat} (hv : ∀ q, v.ownBlock = some q → B ≤ q ∧ q < S) (h : (Value.slice (some ⟨g, 0, none⟩) n c).ownBlock = v.ownBlock ∨ (Value.slice (some ⟨g, 0, none⟩) n c).ownBlock = some N) (hB : B ≤ g) (hN : S < N) : g ≠ S ∧ B ≤ g := by
  refine ⟨?_, hB⟩
  rcases h with h | h
  · have := hv g h.symm; omega
  · injection h with h; have h' : g = N := h; omega
theorem _root_.Go.RowKit.Below.drewN' {B : Nat} {a w : World} (h : Below B a w) (n : Nat) : Below B a (w.drewN n) := below_drewN h n
def SortRel (ss : List St) (w : World) (v3 iv : Value) (wr : World) : Prop :=
  ∃ l : List St, iv = .int .i64 (l.length : Int) ∧ l.length ≤ ss.length ∧ Mv 0 l.length (fnl (ss.take l.length)) (fnl l) ∧ Srt ltS 0 l.length (fnl l) ∧ wr.ownsRow w.heap.size 33 3 v3 l.length (stepCells l) ∧ Below w.heap.size w wr
def SortedPost (ss : List St) (w : World) (e : Ending) (w' : World) : Prop :=
  ∃ (l : List St) (v : Value), e = .returned v ∧ l.length = ss.length ∧ Mv 0 ss.length (fnl ss) (fnl l) ∧ Srt ltS 0 l.length (fnl l) ∧ w'.ownsRow w.heap.size 33 3 v l.length (stepCells l) ∧ Below w.heap.size w w'
theorem owns_app {w : World} {B : Nat} {E : TypeId} {v : Value} {l : List St} {z : St} {n : Nat} (h : w.ownsRow B E 3 v n (stepCells l ++ stC z)) (hn : n = l.length + 1) : w.ownsRow B E 3 v (l ++ [z]).length (stepCells (l ++ [z])) := by
  rw [show (l ++ [z]).length = n by rw [hn]; simp, stepCells_append, show stepCells [z] = stC z by simp [stepCells]]
  exact h
theorem sort_end {ss l : List St} {z : St} {w w2 w4 : World} {gb2 c2 p n : Nat} (hlt : l.length < ss.length) (hz : z = ss[l.length]) (hmv : Mv 0 l.length (fnl (ss.take l.length)) (fnl l)) (hsr : Srt ltS 0 l.length (fnl l)) (hn : n = l.length + 1)
    (hown : w2.ownsRow w.heap.size 33 3 (.slice (some ⟨gb2, 0, none⟩) n c2) n (stepCells l ++ stC z)) (hp : p ≤ l.length) (h1 : 0 < p → ltS z (fnl l (p - 1)) = false) (h2 : ∀ x, p ≤ x → x < l.length → ltS z (fnl l x) = true)
    (hq : Q w4 gb2 0 n (shf (fnl (l ++ [z])) l.length p)) (hg : GB w2.drew w4 gb2) (hb : Below w.heap.size w w2) (hB : w.heap.size ≤ gb2) :
    SortRel ss w (.slice (some ⟨gb2, 0, none⟩) n c2) (.int .i64 ((l.length : Int) + 1)) (put0 w4 gb2 p z) := by
  have hlt2 : (ss.take l.length).length = l.length := by rw [List.length_take]; omega
  have ho := owns_app hown hn
  have hln : (l ++ [z]).length = n := by rw [hn]; simp
  have hin : (insL l z p).length = l.length + 1 := by simp [insL, tab_len]
  have hok := insL_ok (m := ss.take l.length) (z := z) (at_ := p) hlt2.symm (by rw [hlt2]; exact hmv) hsr hp h1 h2
  have htk : ss.take (l.length + 1) = ss.take l.length ++ [z] := by rw [hz]; exact List.take_succ_eq_append_getElem hlt
  have hq5 : Q (put3 w4 gb2 0 p z) gb2 0 n (dnf (fnl (l ++ [z])) l.length p) := (hq.put p z (by omega)).congr fun k _ => by rw [← shf_put, fnl_snoc]
  have hg5 : GB w2 (put3 w4 gb2 0 p z) gb2 := grow_trans (grow_trans (grow_refl w2 gb2).drew' hg) (grow_put3 w4 gb2 0 p z)
  rw [← put0_eq] at hq5 hg5
  rw [← hln] at hq5
  have ho5 := owns_sorted (by rw [hln]; rw [hln] at ho; exact ho) (by rw [hln]; omega) hq5 hg5
  refine ⟨insL l z p, by rw [hin]; exact i64e (by omega), by rw [hin]; omega, ?_, hok.2, ?_, hb.grown hg5.1 hb.size (fun q hq => by cases hq; exact hB)⟩
  · have := hok.1
    rw [hin, htk]
    rwa [show (ss.take l.length ++ [z]).length = l.length + 1 by simp; omega] at this
  · rw [hin, ← hn]
    rw [hln] at ho5
    unfold insL
    rw [← hn]
    exact ho5
theorem sorted_any (a : Option Addr) (c : Nat) (ss : List St) (w : World) (ha : Arg w w.heap.size 3 a ss.length (stepCells ss)) (hl : ss.length ≤ 4294967295) :
    Calls Try.prog 25 #[.slice a ss.length c] w (SortedPost ss w) := by
  have HA := Lib.hid ha
  clear ha
  obtain ⟨i0, hi, hz0, hz1, hz2⟩ := info_parts infoStep
  go_enter Try.func25, Try.ntmps25
  go_wp2
  go_loopw [3, 10] (SortRel ss w) (fun _ iv _ => ss.length - (intOf iv).toNat)
  case atStart => exact ⟨[], rfl, Nat.zero_le _, Mv.refl _ _ _, (fun i j _ _ h => by simp at h), World.ownsRow_made w #[] 0 (Nat.le_refl _) (by simp [maxLen]) rfl, (Below.refl _ _).alloc (Nat.le_refl _) _⟩
  case round =>
    obtain ⟨l, rfl, hk, hmv, hsr, hown, hbel⟩ := hrel
    have HB := Lib.hid hbel
    have HMV := Lib.hid hmv
    have HSR := Lib.hid hsr
    have HOW := Lib.hid hown
    obtain ⟨va, vc, rfl⟩ := owns_shape hown
    clear hbel hmv hsr hown
    obtain ⟨W, rfl⟩ : ∃ W : World, W = wr := ⟨_, rfl⟩
    by_cases hlt : l.length < ss.length
    · obtain ⟨b, o, hae, hbB, c0, c1, c2⟩ := (HA.out.below HB.out).step l.length hlt
      subst hae
      obtain ⟨z, hzz⟩ : ∃ z, z = ss[l.length] := ⟨_, rfl⟩
      rw [← hzz] at c0 c1 c2
      have HZ := Lib.hid hzz
      clear hzz
      have hw1 : (W.alloc (.cells #[.int .i64 z.1, .int .i64 z.2.1, .string z.2.2] 33)).heap.size = W.heap.size + 1 := by simp
      have hg : ∀ o', (W.alloc (.cells #[.int .i64 z.1, .int .i64 z.2.1, .string z.2.2] 33)).cell? ⟨W.heap.size, o', none⟩ = #[Value.int .i64 z.1, .int .i64 z.2.1, .string z.2.2][o']? := fun o' => cell_of_row _ _ o' _ _ _ (heap_alloc_new W _)
      have HG := Lib.hid hg
      have HO1 := Lib.hid (HOW.out.alloc (.cells #[.int .i64 z.1, .int .i64 z.2.1, .string z.2.2] 33))
      have HB1 := Lib.hid (HB.out.alloc HB.out.size (.cells #[.int .i64 z.1, .int .i64 z.2.1, .string z.2.2] 33))
      have HVL : Hid (∀ g, (Value.slice va l.length vc).ownBlock = some g → w.heap.size ≤ g ∧ g < W.heap.size) := fun g hg => HOW.out.lt g hg
      clear hg
      go_wp2_with fail
      clear c0 c1 c2
      obtain ⟨W1, hW1⟩ : ∃ W1 : World, W1 = W.alloc (.cells #[.int .i64 z.1, .int .i64 z.2.1, .string z.2.2] 33) := ⟨_, rfl⟩
      rw [← hW1] at hw1 HG HO1 HB1 ⊢
      clear hW1
      have s0 : W1.cell? ⟨W.heap.size, 0, none⟩ = some (.int .i64 z.1) := HG.out 0
      have s1 : W1.cell? ⟨W.heap.size, 1, none⟩ = some (.int .i64 z.2.1) := HG.out 1
      have s2 : W1.cell? ⟨W.heap.size, 2, none⟩ = some (.string z.2.2) := HG.out 2
      go_loopw [6] (fun av wr => ∃ (p q : Nat), av = .int .i64 p ∧ p ≤ l.length ∧ Hid (∀ x, p ≤ x → x < l.length → ltS z (fnl l x) = true) ∧ wr = W1.drewN q) (fun av _ => (intOf av).toNat)
      case atStart => exact ⟨l.length, 0, rfl, Nat.le_refl _, fun x h1 h2 => by omega, rfl⟩
      case round =>
        obtain ⟨p, q, rfl, hp, HI, rfl⟩ := hrel
        have m1 : l.length + 1 ≤ maxLen := by unfold maxLen; omega
        have m2 : (l.length + 1) * 32 ≤ 140737488355328 := by omega
        have HO2 : Hid (∀ n, (W1.drewN n).ownsRow w.heap.size 33 3 (.slice va l.length vc) l.length (stepCells l)) := fun n => HO1.out
        have hbs : w.heap.size ≤ W.heap.size := HB.out.size
        have HC3 : Hid (∀ (n : Nat) (T : TypeId) (j : Nat) (u : Value), (stC z)[j]? = some u → ((W1.drewN n).alloc (.cells #[.int .i64 z.1, .int .i64 z.2.1, .string z.2.2] T)).cell? ((⟨W.heap.size + 1, 0, none⟩ : Addr).add j) = some u) := by
          intro n T
          have := cells3 (W1.drewN n) T z.1 z.2.1 z.2.2
          rw [show (W1.drewN n).heap.size = W.heap.size + 1 from hw1] at this
          exact this
        have HC4 : Hid (∀ (n j : Nat) (o : Obj), ((W1.drewN n).alloc o).cell? ⟨W.heap.size, j, none⟩ = W1.cell? ⟨W.heap.size, j, none⟩) := fun n j o => World.cell?_of_block (w := W1) (a := ⟨W.heap.size, j, none⟩) (Below.heap_alloc (W1.drewN n) o W.heap.size (by show W.heap.size < W1.heap.size; omega))
        by_cases hp0 : p = 0
        · have hp1 : ¬ 0 < p := by omega
          have hd : decide ((0 : Int) < (p : Int)) = false := by simp; omega
          have HE1 : Hid (0 < p → ltS z (fnl l (p - 1)) = false) := fun h => absurd h hp1
          have HP0 := Lib.hid hp0
          clear hp0
          go_wp2_with fail
          go_quiet (fail)
          clear hd
          go_wp2_with (at_builtin; refine wpList_append_own2 _ rfl (.tmp 31) (.tmp 33) 27 rfl w.heap.size 33 i0 _ 3 32 Try.underlying27 hi hz0 hz1 hz2 rfl (by decide) (.slice va l.length vc) l.length (stepCells l) rfl ((HO2.out _).alloc _) ⟨W.heap.size + 1, 0, none⟩ 1 1 (stC z) rfl rfl (HC3.out _ _) (stC_one _) m1 m2 (by simp; omega) ?_; intro v2 w2 k1 k2 k3; obtain ⟨gb2, c2, rfl⟩ := owns_head k1 (Nat.succ_pos _); obtain ⟨n, hn⟩ : ∃ n, n = l.length + 1 := ⟨_, rfl⟩; rw [← hn] at k1 ⊢; have K1 := Lib.hid k1; have K2 := Lib.hid k2; have K3 := Lib.hid k3; have HNN := Lib.hid hn; have HK4 : Hid (gb2 ≠ W.heap.size ∧ w.heap.size ≤ gb2) := own_ne HVL.out k3 (k1.lt gb2 rfl).1 (by simp; omega); have h0 := (World.cell?_of_block (a := ⟨W.heap.size, 0, none⟩) (k2.block W.heap.size (by simp; omega) (fun e => Nat.lt_irrefl _ (HVL.out _ e.symm).2))).trans ((HC4.out _ 0 (.cells #[.int .i64 z.1, .int .i64 z.2.1, .string z.2.2] 33)).trans s0); have h1 := (World.cell?_of_block (a := ⟨W.heap.size, 1, none⟩) (k2.block W.heap.size (by simp; omega) (fun e => Nat.lt_irrefl _ (HVL.out _ e.symm).2))).trans ((HC4.out _ 1 (.cells #[.int .i64 z.1, .int .i64 z.2.1, .string z.2.2] 33)).trans s1); have h2 := (World.cell?_of_block (a := ⟨W.heap.size, 2, none⟩) (k2.block W.heap.size (by simp; omega) (fun e => Nat.lt_irrefl _ (HVL.out _ e.symm).2))).trans ((HC4.out _ 2 (.cells #[.int .i64 z.1, .int .i64 z.2.1, .string z.2.2] 33)).trans s2); have hz2 := k2.size; have HBW := Lib.hid (((HB1.out.drewN' _).alloc (by simp; omega) _).grown k2 (by simp; omega) (fun g hg => (HVL.out g hg).1)); clear k1 k2 k3 hn)
          have hown := owns_app K1.out HNN.out
          have hln : (l ++ [z]).length = n := by rw [HNN.out]; simp
          obtain ⟨hq2, cur, cap, hg2, hcs, hle, hcm, hcc, _⟩ := owns_q (n := 0) (by rw [hln]; rw [hln] at hown; exact hown) (by rw [hln, HNN.out]; omega)
          rw [hln] at hq2 hle
          obtain ⟨dp, dc, d1, d2, d3⟩ := steps_tail gb2 n c2 (p + 1) (by have := HNN.out; omega) (by omega)
          obtain ⟨sp, sc, e1, e2, e3⟩ := steps_tail gb2 n c2 p (by have := HNN.out; omega) (by omega)
          rw [show ((p + 1 : Nat) : Int) = (p : Int) + 1 by omega] at d3
          obtain ⟨w4, hrun, hq4, hg4⟩ := run_copy_steps (P := Try.prog) w2.drew 27 27 3 33 Try.underlying27 infoStep3 gb2 l.length p n (fnl (l ++ [z])) hp HNN.out hq2 cur 33 hg2 (by rw [hcs]; omega) dp sp dc sc d1 e1 (fun h => ⟨d2 (by have := HNN.out; omega), e2 (by have := HNN.out; omega)⟩)
          have HRUN := Lib.hid hrun
          have hk4 := fun j => World.cell?_of_block (w := w2) (a := ⟨W.heap.size, j, none⟩) (hg4.1.block W.heap.size (by show W.heap.size < w2.heap.size; simp at hz2; omega) (fun e => HK4.out.1 (by injection e with e; exact e.symm)))
          have g0 := (hk4 0).trans h0
          have g1 := (hk4 1).trans h1
          have g2 := (hk4 2).trans h2
          have hpn : p < n := by have := HNN.out; omega
          obtain ⟨y1, y2, y3, y4, y5, y6⟩ := hq4.2 p hpn
          simp only [Nat.zero_add] at y1 y2 y3 y4 y5 y6
          have HQ4 := Lib.hid hq4
          have HG4 := Lib.hid hg4
          have hpi2 : (p : Int) < (n : Int) := by omega
          have hwr1 : IntKind.i64.wrap ((p : Int) + 1) = (p : Int) + 1 := IntWalk.i64_in _ (by omega)
          clear hown hq2 hg2 hcs hcc hcm hk4 h0 h1 h2 hrun hq4 hg4 d1 d2 e1 e2 hln
          refine wp_region_tail 7 (by kernel_rfl) (by kernel_rfl) w2.drew rfl ?_
          simp only [List.take_succ_cons, List.take_zero, List.drop_succ_cons, List.drop_zero]
          repeat still_step
          refine wpStill_nil ?_
          refine wpList_copy_at rfl (.tmp 38) (.tmp 41) 27 27 rfl (.slice dp (n - (p + 1)) dc) (.slice sp (n - p) sc) rfl rfl _ w4 HRUN.out ?_
          clear hwr1 d3 e3
          go_wp2_with fail
          go_roundw
          case rel => exact sort_end hlt HZ.out HMV.out HSR.out HNN.out K1.out hp HE1.out HI.out HQ4.out HG4.out HBW.out HK4.out.2
          case measure => simp [intOf]; omega
        · have hp1 : 0 < p := by omega
          obtain ⟨i, hpi⟩ : ∃ i, p = i + 1 := ⟨p - 1, by omega⟩
          have HPI := Lib.hid hpi
          obtain ⟨gb, rfl⟩ : ∃ gb, va = some ⟨gb, 0, none⟩ := by
            rcases HO1.out.2 with ⟨_, h2⟩ | ⟨g, cap, cur, h2, _⟩
            · omega
            · injection h2 with h2; exact ⟨g, h2⟩
          have q0 := (((owns_q (n := 0) HO1.out (by omega)).1).2 i (by omega)).1
          simp only [Nat.zero_add] at q0
          have hd : decide ((0 : Int) < (p : Int)) = true := by simp; omega
          have hi0 : (0 : Int) ≤ (i : Int) := by omega
          have hil : (i : Int) < (l.length : Int) := by omega
          have hwr : IntKind.i64.wrap ((p : Int) - 1) = (i : Int) := by rw [IntWalk.i64_in _ (by omega)]; omega
          clear hpi hp0
          by_cases hlt2 : z.1 < (fnl l i).1
          · have HLT : Hid (ltS z (fnl l i) = true) := by show _ = _; unfold ltS; simpa using hlt2
            go_wp2_with fail
            go_quiet (fail)
            clear hwr hd
            go_wp2_with fail
            go_roundw
            case rel =>
              have hpi := HPI.out
              refine ⟨i, _, i64e (by omega), by omega, fun x h1 h2 => ?_, rfl⟩
              by_cases hx : x = i
              · subst hx; exact HLT.out
              · exact HI.out x (by omega) h2
            case measure => simp [intOf]; omega
          · have HE1 : Hid (0 < p → ltS z (fnl l (p - 1)) = false) := fun _ => by rw [HPI.out, Nat.add_sub_cancel]; unfold ltS; simpa using hlt2
            go_wp2_with fail
            go_quiet (fail)
            clear hwr hd q0
            go_wp2_with (at_builtin; refine wpList_append_own2 _ rfl (.tmp 31) (.tmp 33) 27 rfl w.heap.size 33 i0 _ 3 32 Try.underlying27 hi hz0 hz1 hz2 rfl (by decide) (.slice (some ⟨gb, 0, none⟩) l.length vc) l.length (stepCells l) rfl ((HO2.out _).alloc _) ⟨W.heap.size + 1, 0, none⟩ 1 1 (stC z) rfl rfl (HC3.out _ _) (stC_one _) m1 m2 (by simp; omega) ?_; intro v2 w2 k1 k2 k3; obtain ⟨gb2, c2, rfl⟩ := owns_head k1 (Nat.succ_pos _); obtain ⟨n, hn⟩ : ∃ n, n = l.length + 1 := ⟨_, rfl⟩; rw [← hn] at k1 ⊢; have K1 := Lib.hid k1; have K2 := Lib.hid k2; have K3 := Lib.hid k3; have HNN := Lib.hid hn; have HK4 : Hid (gb2 ≠ W.heap.size ∧ w.heap.size ≤ gb2) := own_ne HVL.out k3 (k1.lt gb2 rfl).1 (by simp; omega); have h0 := (World.cell?_of_block (a := ⟨W.heap.size, 0, none⟩) (k2.block W.heap.size (by simp; omega) (fun e => Nat.lt_irrefl _ (HVL.out _ e.symm).2))).trans ((HC4.out _ 0 (.cells #[.int .i64 z.1, .int .i64 z.2.1, .string z.2.2] 33)).trans s0); have h1 := (World.cell?_of_block (a := ⟨W.heap.size, 1, none⟩) (k2.block W.heap.size (by simp; omega) (fun e => Nat.lt_irrefl _ (HVL.out _ e.symm).2))).trans ((HC4.out _ 1 (.cells #[.int .i64 z.1, .int .i64 z.2.1, .string z.2.2] 33)).trans s1); have h2 := (World.cell?_of_block (a := ⟨W.heap.size, 2, none⟩) (k2.block W.heap.size (by simp; omega) (fun e => Nat.lt_irrefl _ (HVL.out _ e.symm).2))).trans ((HC4.out _ 2 (.cells #[.int .i64 z.1, .int .i64 z.2.1, .string z.2.2] 33)).trans s2); have hz2 := k2.size; have HBW := Lib.hid (((HB1.out.drewN' _).alloc (by simp; omega) _).grown k2 (by simp; omega) (fun g hg => (HVL.out g hg).1)); clear k1 k2 k3 hn)
            have hown := owns_app K1.out HNN.out
            have hln : (l ++ [z]).length = n := by rw [HNN.out]; simp
            obtain ⟨hq2, cur, cap, hg2, hcs, hle, hcm, hcc, _⟩ := owns_q (n := 0) (by rw [hln]; rw [hln] at hown; exact hown) (by rw [hln, HNN.out]; omega)
            rw [hln] at hq2 hle
            obtain ⟨dp, dc, d1, d2, d3⟩ := steps_tail gb2 n c2 (p + 1) (by have := HNN.out; omega) (by omega)
            obtain ⟨sp, sc, e1, e2, e3⟩ := steps_tail gb2 n c2 p (by have := HNN.out; omega) (by omega)
            rw [show ((p + 1 : Nat) : Int) = (p : Int) + 1 by omega] at d3
            obtain ⟨w4, hrun, hq4, hg4⟩ := run_copy_steps (P := Try.prog) w2.drew 27 27 3 33 Try.underlying27 infoStep3 gb2 l.length p n (fnl (l ++ [z])) hp HNN.out hq2 cur 33 hg2 (by rw [hcs]; omega) dp sp dc sc d1 e1 (fun h => ⟨d2 (by have := HNN.out; omega), e2 (by have := HNN.out; omega)⟩)
            have HRUN := Lib.hid hrun
            have hk4 := fun j => World.cell?_of_block (w := w2) (a := ⟨W.heap.size, j, none⟩) (hg4.1.block W.heap.size (by show W.heap.size < w2.heap.size; simp at hz2; omega) (fun e => HK4.out.1 (by injection e with e; exact e.symm)))
            have g0 := (hk4 0).trans h0
            have g1 := (hk4 1).trans h1
            have g2 := (hk4 2).trans h2
            have hpn : p < n := by have := HNN.out; omega
            obtain ⟨y1, y2, y3, y4, y5, y6⟩ := hq4.2 p hpn
            simp only [Nat.zero_add] at y1 y2 y3 y4 y5 y6
            have HQ4 := Lib.hid hq4
            have HG4 := Lib.hid hg4
            have hpi2 : (p : Int) < (n : Int) := by omega
            have hwr1 : IntKind.i64.wrap ((p : Int) + 1) = (p : Int) + 1 := IntWalk.i64_in _ (by omega)
            clear hown hq2 hg2 hcs hcc hcm hk4 h0 h1 h2 hrun hq4 hg4 d1 d2 e1 e2 hln
            refine wp_region_tail 7 (by kernel_rfl) (by kernel_rfl) w2.drew rfl ?_
            simp only [List.take_succ_cons, List.take_zero, List.drop_succ_cons, List.drop_zero]
            repeat still_step
            refine wpStill_nil ?_
            refine wpList_copy_at rfl (.tmp 38) (.tmp 41) 27 27 rfl (.slice dp (n - (p + 1)) dc) (.slice sp (n - p) sc) rfl rfl _ w4 HRUN.out ?_
            clear hwr1 d3 e3
            go_wp2_with fail
            go_roundw
            case rel => exact sort_end hlt HZ.out HMV.out HSR.out HNN.out K1.out hp HE1.out HI.out HQ4.out HG4.out HBW.out HK4.out.2
            case measure => simp [intOf]; omega
    · go_wp2
      go_ret
      refine ⟨l, _, rfl, by omega, ?_, HSR.out, HOW.out, HB.out⟩
      have := HMV.out
      rwa [List.take_of_length_le (by omega), show l.length = ss.length by omega] at this
end Go.Proofs.Ytboiigeomgdkjaa
