/-
  Seat b6626205aD: single operations of a drawn region.
-/
import Derived.Test.Qxb6626205aDoorReq
namespace Go.Proofs.Qxb6626205aDoor
open Go.RowKit
section
variable {P : Program} {ops : Array Oper} {Q : Exit → Act → World → Prop} {i : Nat} {o : Oper} {K : Act → World → Prop} {a : Act} {w w' : World}

theorem step_plain (ho : ops[i]? = some o) (hg : o.guard = none) (h : ∀ K' : Act → World → Prop, (∀ a w, K a w → K' a w) → Oper.wp P o a w K' Q) : wpOp P ops Q i K a w := by
  refine wpOp_step ho (fun K' hK => ?_)
  have : Region.wanted o (yielded ops a.tmps) = true := by simp [Region.wanted, hg]
  rw [if_pos this]
  exact h K' hK

theorem step_insert {m x v : Operand} {t : TypeId} (ho : ops[i]? = some o) (hg : o.guard = none) (hd : o.dst = none) (hop : o.op = Op.insert t m x v)
    (hrun : (Instr.mapUpdate t (a.eval m) (a.eval x) (a.eval v)).run P w = .ok () w') (hK : K a w') : wpOp P ops Q i K a w := by
  refine step_plain ho hg (fun K' hK' => ?_)
  unfold Oper.wp
  simp [execOp, hop, hrun, Result.andThen]
  simp only [Oper.upon]
  rw [hd]
  exact hK' _ _ hK

theorem step_mapUpdate {m x v : Operand} {t : TypeId} (ho : ops[i]? = some o) (hg : o.guard = none) (hd : o.dst = none) (hop : o.op = Op.mapUpdate t m x v)
    (hrun : (Instr.mapUpdate t (a.eval m) (a.eval x) (a.eval v)).run P w = .ok () w') (hK : K a w') : wpOp P ops Q i K a w := by
  refine step_plain ho hg (fun K' hK' => ?_)
  unfold Oper.wp
  simp [execOp, hop, hrun, Result.andThen]
  simp only [Oper.upon]
  rw [hd]
  exact hK' _ _ hK

theorem step_makeMap {t : TypeId} {d : Nat} (ho : ops[i]? = some o) (hg : o.guard = none) (hd : o.dst = some d) (hop : o.op = Op.makeMap t none)
    (hK : K (a.put (some d) (.map (some w.heap.size))) (w.alloc (.map #[] 0))) : wpOp P ops Q i K a w := by
  refine step_plain ho hg (fun K' hK' => ?_)
  have hmm := run_makeMap (P := P) t w
  unfold Oper.wp
  simp [execOp, hop, hmm, Result.andThen]
  simp only [Oper.upon]
  rw [hd]
  exact hK' _ _ hK

theorem step_call {f d : Nat} {args : Array Value} (ho : ops[i]? = some o) (hg : o.guard = none) (hd : o.dst = some d)
    (hrun : (execOp a.eval o).run P w = .ok (.enter f args) w) (hc : Calls P f args w fun e w' => ∃ v, e = .returned v ∧ K (a.put (some d) v) w') : wpOp P ops Q i K a w := by
  refine step_plain ho hg (fun K' hK' => ?_)
  unfold Oper.wp
  rw [hrun, Oper.upon_enter]
  refine hc.mono ?_
  rintro e w' ⟨v, rfl, hK⟩
  rw [hd]
  exact hK' _ _ hK

theorem step_callTo {f d : Nat} {xs : Array Operand} {ts : Array TypeId} {args : Array Value} (ho : ops[i]? = some o) (hg : o.guard = none) (hd : o.dst = some d)
    (hop : o.op = Op.call { callee := .value (.func f), args := xs, argTypes := ts }) (hargs : xs.map a.eval = args) (hf : (callFunc f args).run P w = .ok (.enter f args) w) (hc : Calls P f args w fun e w' => ∃ v, e = .returned v ∧ K (a.put (some d) v) w') : wpOp P ops Q i K a w := by
  refine step_call (args := args) ho hg hd ?_ hc
  obtain ⟨dst, op, ty, pos, after, guard⟩ := o
  simp only at hop
  subst hop
  rw [execOp_call_go, hargs]
  simpa using hf
end
end Go.Proofs.Qxb6626205aDoor
