/-
  append to a row of the call's own as one step of a region that draws its order. No condition.
-/
import Derived.Test.YtnjdckhaecdldaaRow
import Derived.Deep.RegionLaw
namespace Go.Proofs.Ytnjdckhaecdldaa
open Go.RowKit Go.Lib
theorem step_append_row {P : Program} {ops : Array Oper} {o : Oper} {a : Act} {w : World} {K : Act → World → Prop} {Q : Exit → Act → World → Prop} {E : Prop} (hg : o.guard = none) (s x : Operand) (t tx : TypeId)
    (ho : o.op = .call { callee := .builtin .append, args := #[s, x], argTypes := #[t, tx] })
    (B : Nat) (e : TypeId) (i : TypeInfo) (z : Value) (size bytes : Nat) (ht : P.underlying t = some (.slice e)) (hi : P.info? e = some i) (hz : i.zero = some z) (hsize : i.size = size) (hby : i.bytes = bytes) (hzs : z.cells.size = size)
    (v : Value) (n : Nat) (xs : List Value) (h : Row w B size v n xs) (hv : a.eval s = v) (xv : Value) (m : Nat) (news : List Value) (hs : Src P size tx xv m news w) (hx : a.eval x = xv)
    (h63 : n + m ≤ maxLen) (hbytes : (n + m) * bytes ≤ 140737488355328) (hB : B ≤ w.heap.size)
    (hK : ∀ v' w', Row w' B size v' (n + m) (xs ++ news) → w.grownBy w' v.ownBlock → (v'.ownBlock = v.ownBlock ∨ v'.ownBlock = some w.heap.size) → K (a.put o.dst v') w') :
    if Region.wanted o (yielded ops a.tmps) = true then Oper.wp P o a w K Q else E := by
  have hw : Region.wanted o (yielded ops a.tmps) = true := by simp [Region.wanted, hg]
  rw [if_pos hw]
  obtain ⟨v', w', hrun, h2, h3, h4⟩ := run_append_row (P := P) w B t tx o.type e i z size bytes ht hi hz hsize hby hzs h xv m news hs h63 hbytes hB
  unfold Oper.wp
  simp [execOp, ho, resolve, invoke, builtin, hv, hx, hrun, Result.andThen]
  exact hK v' w' h2 h3 h4
end Go.Proofs.Ytnjdckhaecdldaa
