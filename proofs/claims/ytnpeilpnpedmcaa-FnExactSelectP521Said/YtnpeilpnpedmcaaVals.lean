/-
  A region that draws its order and writes nothing old: each operation's value is told ahead, whatever the order. A value may be a slice of new words, whose place the order decides.
-/
import Derived.Test.YtnpeilpnpedmcaaOps
namespace Go.Proofs.Ytnpeilpnpedmcaa
set_option linter.unusedSimpArgs false
set_option linter.unusedVariables false
open Go.RowKit Num

/-- What is told of a slot: the value itself, or a slice of these words wherever it lies. -/
inductive RV where
  | is (v : Value)
  | words (l : List Nat)
def RV.holds : RV → World → Value → Prop
  | .is v, _, x => x = v
  | .words l, w, x => ∃ g t f, x = .slice (some ⟨g, 0, none⟩) l.length l.length ∧ w.heap[g]? = some (.cells (l.map u64).toArray t f)
theorem RV.holds_next {r : RV} {w w' : World} {x : Value} (hb : Below w.heap.size w w') (h : r.holds w x) : r.holds w' x := by
  cases r with
  | is v => exact h
  | words l =>
    obtain ⟨g, t, f, e, hg⟩ := h
    exact ⟨g, t, f, e, has_next hb hg⟩

def dep (ops : Array Oper) (i k : Nat) : Bool := match ops[i]? with
  | some o => o.after.toList.any fun e => Region.binds .any e && e.on == k
  | none => false
def Does (P : Program) (ops : Array Oper) (R : RV) (i : Nat) (a : Act) (w : World) : Prop :=
  ∃ o, ops[i]? = some o ∧ ((Region.wanted o (yielded ops a.tmps) = false ∧ R.holds w undef) ∨ (Region.wanted o (yielded ops a.tmps) = true ∧
    ((∃ v w', (execOp a.eval o).run P w = .ok (.value v) w' ∧ Below w.heap.size w w' ∧ R.holds w' v) ∨
      ∃ f args, (execOp a.eval o).run P w = .ok (.enter f args) w ∧ Calls P f args w fun e w' => ∃ v, e = .returned v ∧ Below w.heap.size w w' ∧ R.holds w' v)))

structure JV (dsts : List Nat) (V : List RV) (w1 : World) (a0 : Act) (listed : Array Bool) (a : Act) (w : World) : Prop where
  size : a.tmps.size = a0.tmps.size
  defers : a.defers = a0.defers
  bel : Below w1.heap.size w1 w
  rest : ∀ t, t ∉ dsts → a.tmps.getD t undef = a0.tmps.getD t undef
  done : ∀ i, i < dsts.length → listed.getD i false = true → (V.getD i (.is undef)).holds w (a.tmps.getD (dsts.getD i 0) undef)

theorem JV.step {dsts : List Nat} {V : List RV} {w1 : World} {a0 : Act} {listed : Array Bool} {a : Act} {w w' : World} {i : Nat} {v : Value} (h : JV dsts V w1 a0 listed a w) (hl : listed.size = dsts.length) (nd : dsts.Nodup) (hi : i < dsts.length)
    (lt : ∀ d ∈ dsts, d < a0.tmps.size) (hb : Below w.heap.size w w') (hv : (V.getD i (.is undef)).holds w' v) : JV dsts V w1 a0 (listed.setIfInBounds i true) (a.put (some (dsts.getD i 0)) v) w' := by
  have hm : dsts.getD i 0 ∈ dsts := by rw [List.getD_eq_getElem?_getD, List.getElem?_eq_getElem hi]; exact List.getElem_mem hi
  have hd : dsts.getD i 0 < a.tmps.size := by rw [h.size]; exact lt _ hm
  refine ⟨by rw [size_put]; exact h.size, h.defers, below_next h.bel hb, fun t ht => ?_, fun k hk hlk => ?_⟩
  · rw [getD_put _ _ _ _ hd, if_neg (fun (e : t = dsts.getD i 0) => ht (by rw [e]; exact hm))]
    exact h.rest t ht
  · rw [getD_put _ _ _ _ hd]
    by_cases e : k = i
    · subst e; rw [if_pos rfl]; exact hv
    · have hne : dsts.getD k 0 ≠ dsts.getD i 0 := by
        intro e'
        rw [List.getD_eq_getElem?_getD, List.getD_eq_getElem?_getD, List.getElem?_eq_getElem hk, List.getElem?_eq_getElem hi] at e'
        exact e ((List.getElem_inj nd).1 e')
      rw [if_neg hne]
      rw [getD_set _ _ _ (by omega), if_neg e] at hlk
      exact RV.holds_next hb (h.done k hk hlk)

theorem wp_region_vals {P : Program} {id : Nat} {ops : Array Oper} {Q : Exit → Act → World → Prop} {a : Act} {w : World} (hm : P.follows .mixedOrders = true) (hac : acycB ops = true) (dsts : List Nat) (V : List RV)
    (hd : ops.toList.map (·.dst) = dsts.map some) (nd : dsts.Nodup) (lt : dsts.all (fun d => decide (d < a.tmps.size)) = true)
    (hs : ∀ i, i < dsts.length → ∀ (a' : Act) (w' : World), Below w.heap.size w w' → (∀ t, t ∉ dsts → a'.tmps.getD t undef = a.tmps.getD t undef) →
      (∀ k, dep ops i k = true → (V.getD k (.is undef)).holds w' (a'.tmps.getD (dsts.getD k 0) undef)) → Does P ops (V.getD i (.is undef)) i a' w')
    (hq : ∀ (a' : Act) (w' : World), a'.tmps.size = a.tmps.size → a'.defers = a.defers → Below w.heap.size w w' → (∀ t, t ∉ dsts → a'.tmps.getD t undef = a.tmps.getD t undef) →
      (∀ k, k < dsts.length → (V.getD k (.is undef)).holds w' (a'.tmps.getD (dsts.getD k 0) undef)) → Q .normal a' w') : (Code.region id ops true).wp P Q a w := by
  have hlen : ops.size = dsts.length := by have := congrArg List.length hd; simpa using this
  have lt' : ∀ d ∈ dsts, d < a.tmps.size := fun d h => of_decide_eq_true (List.all_eq_true.1 lt d h)
  have hdst : ∀ i o, ops[i]? = some o → o.dst = some (dsts.getD i 0) := by
    intro i o ho
    have h1 : (ops.toList.map (·.dst))[i]? = some o.dst := by simp [ho]
    rw [hd] at h1
    simp only [List.getElem?_map] at h1
    cases h2 : dsts[i]? with
    | none => simp [h2] at h1
    | some d =>
      rw [h2] at h1
      rw [List.getD_eq_getElem?_getD, h2]
      exact (Option.some.inj h1).symm
  refine wp_region_inv hm hac (JV dsts V w a) ⟨rfl, rfl, (Below.refl _ _).drew, fun _ _ => rfl, fun i hi hl => ?_⟩ ?_ ?_
  · have : i < ops.size := by omega
    simp [Array.getD_eq_getD_getElem?, this] at hl
  · intro listed a' w' i o hJ hsz ho hu hdep
    have hi : i < dsts.length := by have := (Array.getElem?_eq_some_iff.1 ho).1; omega
    have hl : listed.size = dsts.length := by omega
    obtain ⟨o', ho', hD⟩ := hs i hi a' w' hJ.bel hJ.rest (fun k hk => by
      unfold dep at hk
      rw [ho] at hk
      obtain ⟨e, he, h2⟩ := List.any_eq_true.1 hk
      replace he := Array.mem_toList_iff.1 he
      simp only [Bool.and_eq_true, beq_iff_eq] at h2
      obtain ⟨h2, rfl⟩ := h2
      have := acycB_spec hac ho he h2
      exact hJ.done _ (by omega) (hdep e he h2))
    obtain rfl : o' = o := by rw [ho] at ho'; cases ho'; rfl
    unfold wpOp
    rw [ho]
    have hdi := hdst i o' ho
    rcases hD with ⟨hw, hR⟩ | ⟨hw, hR⟩
    · simp only [hw]
      rw [if_neg (by simp), hdi]
      exact hJ.step hl nd hi lt' (Below.refl _ _) hR
    · simp only [hw, if_true]
      left
      rcases hR with ⟨v, w2, hrun, hb, hR⟩ | ⟨f, args, hrun, hc⟩
      · refine wp_value hrun ?_
        rw [hdi]
        exact hJ.step hl nd hi lt' hb hR
      · unfold Oper.wp
        rw [hrun, Oper.upon_enter]
        refine hc.mono ?_
        rintro e w2 ⟨v, rfl, hb, hR⟩
        have := hJ.step hl nd hi lt' hb hR
        rw [← hdi] at this
        exact this
  · intro listed a' w' hall hJ
    exact hq a' w' hJ.size hJ.defers hJ.bel hJ.rest fun k hk => hJ.done k hk (hall k (by omega))


/-- What a frame has become, slot by slot. -/
def puts (a : Act) (l : List (Nat × Value)) : Act := { a with tmps := l.foldl (fun t p => t.setIfInBounds p.1 p.2) a.tmps }
theorem fold_size (l : List (Nat × Value)) (t : Array Value) : (l.foldl (fun t p => t.setIfInBounds p.1 p.2) t).size = t.size := by
  induction l generalizing t with
  | nil => rfl
  | cons p l ih => rw [List.foldl_cons, ih]; simp
theorem fold_miss (l : List (Nat × Value)) (t : Array Value) (k : Nat) (h : k ∉ l.map (·.1)) : (l.foldl (fun t p => t.setIfInBounds p.1 p.2) t)[k]? = t[k]? := by
  induction l generalizing t with
  | nil => rfl
  | cons p l ih =>
    simp only [List.map_cons, List.mem_cons, not_or] at h
    rw [List.foldl_cons, ih _ h.2, Array.getElem?_setIfInBounds, if_neg (Ne.symm h.1)]
theorem fold_hit (l : List (Nat × Value)) (t : Array Value) (nd : (l.map (·.1)).Nodup) (d : Nat) (v : Value) (h : (d, v) ∈ l) (hd : d < t.size) : (l.foldl (fun t p => t.setIfInBounds p.1 p.2) t)[d]? = some v := by
  induction l generalizing t with
  | nil => cases h
  | cons p l ih =>
    simp only [List.map_cons, List.nodup_cons] at nd
    rw [List.foldl_cons]
    rcases List.mem_cons.1 h with e | h
    · subst e
      rw [fold_miss _ _ _ nd.1]
      simp [hd]
    · exact ih _ nd.2 h (by simpa using hd)
theorem puts_eta {a a' : Act} (l : List (Nat × Value)) (hsz : a'.tmps.size = a.tmps.size) (hdf : a'.defers = a.defers) (nd : (l.map (·.1)).Nodup) (lt : l.all (fun p => decide (p.1 < a.tmps.size)) = true)
    (hr : ∀ t, t ∉ l.map (·.1) → a'.tmps.getD t undef = a.tmps.getD t undef) (hv : ∀ p ∈ l, a'.tmps.getD p.1 undef = p.2) : a' = puts a l := by
  cases a' with
  | mk tm df =>
    simp only at hsz hdf hr hv
    subst hdf
    unfold puts
    congr 1
    apply Array.ext_getElem?
    intro k
    by_cases hk : k < a.tmps.size
    · have e1 : tm[k]? = some (tm.getD k undef) := by
        rw [Array.getD_eq_getD_getElem?, Array.getElem?_eq_getElem (by omega)]; rfl
      rw [e1]
      by_cases hm : k ∈ l.map (·.1)
      · obtain ⟨p, hp, rfl⟩ := List.mem_map.1 hm
        rw [fold_hit l a.tmps nd p.1 p.2 hp hk, hv p hp]
      · rw [fold_miss _ _ _ hm, hr k hm, Array.getD_eq_getD_getElem?, Array.getElem?_eq_getElem hk]; rfl
    · rw [Array.getElem?_eq_none (by omega), Array.getElem?_eq_none (by rw [fold_size]; omega)]

section
variable {P : Program} {ops : Array Oper} {i : Nat} {a : Act} {w : World}
def Gd (ops : Array Oper) (i : Nat) (a : Act) : Option Bool := (ops[i]?).map fun o => Region.wanted o (yielded ops a.tmps)
theorem gd_none (h : (ops[i]?).map (·.guard) = some none) : Gd ops i a = some true := by
  unfold Gd
  cases ho : ops[i]? with
  | none => simp [ho] at h
  | some o => simp [ho] at h; simp [Region.wanted, h]
theorem gd_some {j d : Nat} {b c r : Bool} (h : (ops[i]?).map (·.guard) = some (some (j, b))) (hj : (ops[j]?).bind (·.dst) = some d) (hv : a.tmps.getD d undef = .bool c) (hr : (c == b) = r) : Gd ops i a = some r := by
  unfold Gd
  cases ho : ops[i]? with
  | none => simp [ho] at h
  | some o =>
    simp [ho] at h
    have h1 : a.tmps[d]? = some (.bool c) := by
      rw [Array.getD_eq_getD_getElem?] at hv
      cases h2 : a.tmps[d]? with
      | none => rw [h2] at hv; cases hv
      | some x => rw [h2] at hv; simpa using hv
    simp only [Option.map_some, Region.wanted, h, yielded, hj, Option.bind_some, h1]
    subst hr
    cases b <;> cases c <;> rfl
theorem does_skip {R : RV} (hg : Gd ops i a = some false) (hR : R.holds w undef) : Does P ops R i a w := by
  unfold Gd at hg
  cases ho : ops[i]? with
  | none => simp [ho] at hg
  | some o => simp [ho] at hg; exact ⟨o, ho, .inl ⟨hg, hR⟩⟩
theorem does_run {v : Value} {c : Op} (hg : Gd ops i a = some true) (hop : (ops[i]?).map (·.op) = some c) (h : ∀ o : Oper, o.op = c → (execOp a.eval o).run P w = .ok (.value v) w) : Does P ops (.is v) i a w := by
  unfold Gd at hg
  cases ho : ops[i]? with
  | none => simp [ho] at hg
  | some o =>
    simp [ho] at hg hop
    exact ⟨o, ho, .inr ⟨hg, .inl ⟨v, w, h o hop, Below.refl _ _, rfl⟩⟩⟩
theorem does_move {x : Operand} {v : Value} (hg : Gd ops i a = some true) (hop : (ops[i]?).map (·.op) = some (.move x)) (hx : a.eval x = v) : Does P ops (.is v) i a w :=
  does_run hg hop fun o ho => by simp [execOp, ho, hx]
theorem does_assign {x : Operand} {v : Value} (hg : Gd ops i a = some true) (hop : (ops[i]?).map (·.op) = some (.assign x)) (hx : a.eval x = v) : Does P ops (.is v) i a w :=
  does_run hg hop fun o ho => by simp [execOp, ho, hx]
theorem does_not {x : Operand} {t : TypeId} {b : Bool} {v : Value} (hg : Gd ops i a = some true) (hop : (ops[i]?).map (·.op) = some (.unOp .not t x)) (hx : a.eval x = .bool b) (hv : v = .bool (!b)) : Does P ops (.is v) i a w :=
  does_run hg hop fun o ho => by subst hv; simp [execOp, ho, hx, unary_not]
theorem does_pick {x y z : Operand} {b : Bool} {v : Value} (hg : Gd ops i a = some true) (hop : (ops[i]?).map (·.op) = some (.pick x y z)) (hx : a.eval x = .bool b) (hv : a.eval (if b then y else z) = v) : Does P ops (.is v) i a w :=
  does_run hg hop fun o ho => by subst hv; cases b <;> simp [execOp, ho, hx, asBool]
theorem does_load {x : Operand} {ty t : TypeId} {g : Nat} {cs : Array Value} {fr : Nat × Nat} {d : TypeDesc} (hg : Gd ops i a = some true) (hop : (ops[i]?).map (·.op) = some (.load ty x)) (hx : a.eval x = .pointer (some ⟨g, 0, none⟩)) (hb : w.heap[g]? = some (.cells cs t fr))
    (hu : P.underlying ty = some d) (hd : (match d with | .struct _ | .array _ _ => true | _ => false) = true) (hi : (P.info? ty).map (·.size) = some cs.size) : Does P ops (.is (.agg cs)) i a w :=
  does_run hg hop fun o ho => by
    unfold execOp
    simp only [ho, hx, Instr.loadAt, Instr.sureAddr, Sem.run_bind, Sem.run_pure, Result.andThen_ok, run_loadVar_row w g t ty cs fr d hb hu hd hi]
theorem does_slice {x : Operand} {ty e n : Nat} {g : Nat} {j : TypeInfo} (hg : Gd ops i a = some true) (hop : (ops[i]?).map (·.op) = some (.slice ty x none none none)) (hx : a.eval x = .pointer (some ⟨g, 0, none⟩))
    (hu : P.underlying ty = some (.array n e)) (hj : P.info? e = some j) : Does P ops (.is (.slice (some ⟨g, 0, none⟩) n n)) i a w :=
  does_run hg hop fun o ho => by
    simp [execOp, ho, hx, Instr.sliceAt, run_underlying hu, Instr.sureAddr, Instr.sliceBounds, Sym.run_sizeOf hj, Addr.add]
theorem does_eql {x y : Operand} {t u : TypeId} {xs ys : Array Value} {b : Bool} {v : Value} (hg : Gd ops i a = some true) (hop : (ops[i]?).map (·.op) = some (.binOp .eql t x y u)) (hx : a.eval x = .agg xs) (hy : a.eval y = .agg ys)
    (hgt : P.eqGuardType P.depth t = false) (he : (Op.equalIn 10000 t (.agg xs) (.agg ys)).run P w = .ok b w) (hv : v = .bool b) : Does P ops (.is v) i a w :=
  does_run hg hop fun o ho => by subst hv; simp [execOp, ho, hx, hy, run_eqGuard_agg w .eql t x y xs ys hgt, run_eql_struct, he]
theorem does_neq {x y : Operand} {t u : TypeId} {xs ys : Array Value} {b : Bool} {v : Value} (hg : Gd ops i a = some true) (hop : (ops[i]?).map (·.op) = some (.binOp .neq t x y u)) (hx : a.eval x = .agg xs) (hy : a.eval y = .agg ys)
    (hgt : P.eqGuardType P.depth t = false) (he : (Op.equalIn 10000 t (.agg xs) (.agg ys)).run P w = .ok b w) (hv : v = .bool (!b)) : Does P ops (.is v) i a w :=
  does_run hg hop fun o ho => by subst hv; simp [execOp, ho, hx, hy, run_eqGuard_agg w .neq t x y xs ys hgt, run_neq_struct, he]
theorem does_build {t e n : Nat} {j k : TypeInfo} {Z : Array Value} (hg : Gd ops i a = some true) (hop : (ops[i]?).map (·.op) = some (.build t #[])) (hu : P.underlying t = some (.array n e)) (hj : P.info? e = some j) (hk : P.info? t = some k) (hz : k.zero = some (.agg Z)) : Does P ops (.is (.agg Z)) i a w :=
  does_run hg hop fun o ho => by simp [execOp, ho, Instr.build, zeroValue, typeInfo, hk, hz, run_underlying hu, Sym.run_sizeOf hj, Value.cells, Instr.fill]
theorem does_call {R : RV} {f : FuncId} {fn : Func} {xs : Array Operand} {ts : Array TypeId} {args : Array Value} (hg : Gd ops i a = some true) (hop : (ops[i]?).map (·.op) = some (.call { callee := .value (.func f), args := xs, argTypes := ts })) (hf : P.funcs[f]? = some fn)
    (hn : (fn.name == "runtime.NumGoroutine") = false) (hb : fn.body.isNone = false) (hx : xs.map a.eval = args) (hc : Calls P f args w fun e w' => ∃ v, e = .returned v ∧ Below w.heap.size w w' ∧ R.holds w' v) : Does P ops R i a w := by
  unfold Gd at hg
  cases ho : ops[i]? with
  | none => simp [ho] at hg
  | some o =>
    simp [ho] at hg hop
    refine ⟨o, ho, .inr ⟨hg, .inr ⟨f, args, ?_, hc⟩⟩⟩
    subst hx
    simp [execOp, hop, resolve, Deferred.ofValue, invoke, Sym.eval_func, run_enter hf hn hb]
end

theorem kept_store {w : World} {o x : Obj} {cs : Array Value} {n : Nat} (h : w.heap[n]? = some x) : ((w.alloc o).setRow w.heap.size cs).heap[n]? = some x := by
  rw [setRow_other _ _ _ _ (Nat.ne_of_lt (size_of h))]
  exact has_old h
theorem new_store {w : World} {Z cs : Array Value} {t : TypeId} : ((w.alloc (.cells Z t)).setRow w.heap.size cs).heap[w.heap.size]? = some (.cells cs t (0, 0)) := setRow_heap _ _ _ _ _ _ (has_new rfl)
theorem below_store {w0 w : World} {o : Obj} {cs : Array Value} (h : Below w0.heap.size w0 w) : Below w0.heap.size w0 ((w.alloc o).setRow w.heap.size cs) := below_setRow (below_new h o) h.size _
end Go.Proofs.Ytnpeilpnpedmcaa
