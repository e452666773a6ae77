/-
  Single operations over a frame that is a letter: what the invariant of a drawn region needs.
-/
import Derived.Test.YtnpeilpnpedmcaaOrd
namespace Go.Proofs.Ytnpeilpnpedmcaa
set_option linter.unusedSimpArgs false
set_option linter.unusedVariables false
open Go.RowKit Num

theorem wpOp_run {P : Program} {ops : Array Oper} {Q : Exit → Act → World → Prop} {i : Nat} {o : Oper} {a : Act} {w : World} {K : Act → World → Prop} (ho : ops[i]? = some o) (hg : o.guard = none) (h : o.wp P a w K Q) : wpOp P ops Q i K a w := by
  unfold wpOp
  rw [ho]
  simp only [Region.wanted, hg, if_true]
  exact .inl h
theorem wp_value {P : Program} {Q : Exit → Act → World → Prop} {o : Oper} {a : Act} {w w' : World} {v : Value} {K : Act → World → Prop} (h : (execOp a.eval o).run P w = .ok (.value v) w') (hK : K (a.put o.dst v) w') : o.wp P a w K Q := by
  unfold Oper.wp
  rw [h]
  exact hK
theorem wp_call {P : Program} {Q : Exit → Act → World → Prop} {o : Oper} {a : Act} {w : World} {f : FuncId} {args : Array Value} {v : Value} {K : Act → World → Prop} (h : (execOp a.eval o).run P w = .ok (.enter f args) w)
    (hc : Calls P f args w fun e w' => e = .returned v ∧ Below w.heap.size w w') (hK : ∀ w', Below w.heap.size w w' → K (a.put o.dst v) w') : o.wp P a w K Q := by
  unfold Oper.wp
  rw [h, Oper.upon_enter]
  refine hc.mono ?_
  rintro e w' ⟨rfl, hb⟩
  exact hK w' hb
theorem getD_put (a : Act) (d t : Nat) (v : Value) (hd : d < a.tmps.size) : (a.put (some d) v).tmps.getD t undef = if t = d then v else a.tmps.getD t undef := by
  by_cases h : t = d
  · subst h; simp [Act.put, Array.getD_eq_getD_getElem?, hd]
  · simp [Act.put, Array.getD_eq_getD_getElem?, Array.getElem?_setIfInBounds, h, Ne.symm h]
theorem size_put (a : Act) (d : Option Nat) (v : Value) : (a.put d v).tmps.size = a.tmps.size := by
  cases d <;> simp [Act.put]
theorem run_enter {P : Program} {f : FuncId} {fn : Func} (hf : P.funcs[f]? = some fn) (hn : (fn.name == "runtime.NumGoroutine") = false) (hb : fn.body.isNone = false) (args : Array Value) (w : World) : (callFunc f args).run P w = .ok (.enter f args) w := by
  have h1 : fn.name ≠ "runtime.NumGoroutine" := by simpa using hn
  simp [callFunc, hf, h1]
  intro h
  rw [h] at hb
  cases hb
theorem run_call2 {P : Program} {f : FuncId} {fn : Func} (hf : P.funcs[f]? = some fn) (hn : (fn.name == "runtime.NumGoroutine") = false) (hb : fn.body.isNone = false) {o : Oper} {a : Act} {w : World} {x y : Operand} {ts : Array TypeId}
    (ho : o.op = .call { callee := .value (.func f), args := #[x, y], argTypes := ts }) : (execOp a.eval o).run P w = .ok (.enter f #[a.eval x, a.eval y]) w := by
  simp [execOp, ho, resolve, Deferred.ofValue, invoke, Sym.eval_func, run_enter hf hn hb]
theorem run_alloc {P : Program} {t : TypeId} {i : TypeInfo} {Z : Array Value} (hi : P.info? t = some i) (hz : i.zero = some (.agg Z)) {o : Oper} {a : Act} {w : World} (ho : o.op = .alloc t) :
    (execOp a.eval o).run P w = .ok (.value (.pointer (some ⟨w.heap.size, 0, none⟩))) (w.alloc (.cells Z t)) := by
  simp [execOp, ho, Instr.alloc, zeroValue, typeInfo, hi, hz, newVar, newRow, Value.cells]
theorem info_row {P : Program} {t n : Nat} {z : Value} (h : (P.info? t).map (fun i => (i.size, i.zero)) = some (n, some z)) : (P.info? t).map (·.size) = some n := by
  obtain ⟨i, h1, h2, _⟩ := info_of h
  simp [h1, h2]
theorem below_block {B n : Nat} {w w' : World} {o : Obj} (h : Below B w w') (hn : n < B) (ho : w.heap[n]? = some o) : w'.heap[n]? = some o := (h.block n hn).trans ho
theorem below_far {n1 : Nat} {w1 w w' : World} (h : Below n1 w1 w) (hn : n1 ≤ w.heap.size) (hb : Below w.heap.size w w') : Below n1 w1 w' := h.trans (hb.mono hn)
theorem below_len {n1 : Nat} {w1 w : World} (h : Below n1 w1 w) (e : n1 = w1.heap.size) : n1 ≤ w.heap.size := by rw [e]; exact h.size
theorem setRow_size (w : World) (g : Nat) (cs : Array Value) : (w.setRow g cs).heap.size = w.heap.size := size_setRow w g cs
end Go.Proofs.Ytnpeilpnpedmcaa
