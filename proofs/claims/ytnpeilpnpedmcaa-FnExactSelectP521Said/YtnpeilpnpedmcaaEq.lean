/-
  Arrays of words, held against each other by '=='.
-/
import Derived.Test.YtnpeilpnpedmcaaSpec
namespace Go.Proofs.Ytnpeilpnpedmcaa
open Go.RowKit Num

section
variable {P : Program} {w : World}
theorem run_part {e : TypeId} (he : P.underlying e = some (.int .u64)) (xs : List Nat) (i : Nat) (hi : i < xs.length) : (part e (xs.map u64).toArray i).run P w = .ok (u64 (xs.getD i 0)) w := by
  simp [part, isAgg, Sym.run_underlying he, List.getD_eq_getElem?_getD, hi]
theorem run_words_eq {e : TypeId} (d : Nat) (he : P.underlying e = some (.int .u64)) (xs ys : List Nat) : ∀ (l : List Nat), (∀ i ∈ l, i < xs.length ∧ i < ys.length) →
    ((forIn l (none, ()) fun i (_ : Option Bool × Unit) => do
            let a ← part e (xs.map u64).toArray i
            let b ← part e (ys.map u64).toArray i
            let c ← Op.equalIn (d + 1) e a b
            if (!c) = true then pure (ForInStep.done (some false, ())) else pure (ForInStep.yield (none, ()))) : Sem (Option Bool × Unit)).run P w =
      .ok (if l.all fun i => xs.getD i 0 == ys.getD i 0 then (none, ()) else (some false, ())) w
  | [], _ => by simp
  | i :: l, h => by
    obtain ⟨h1, h2⟩ := h i List.mem_cons_self
    have ih := run_words_eq d he xs ys l (fun j hj => h j (List.mem_cons_of_mem _ hj))
    have e1 : (Op.equalIn (d + 1) e (u64 (xs.getD i 0)) (u64 (ys.getD i 0))).run P w = .ok (xs.getD i 0 == ys.getD i 0) w := by
      unfold u64
      rw [run_equalIn_int (P := P) (w := w) d e .u64 .u64 _ _ he]
      congr 1
      rw [Bool.eq_iff_iff]
      simp only [beq_iff_eq]
      omega
    rw [List.forIn_cons]
    simp only [Sem.run_bind, run_part he xs i h1, run_part he ys i h2, Result.andThen_ok, e1]
    by_cases hc : xs.getD i 0 = ys.getD i 0
    · have hc' : (xs.getD i 0 == ys.getD i 0) = true := beq_iff_eq.2 hc
      simp only [hc', Bool.not_true, Bool.false_eq_true, if_false, Sem.run_pure, Result.andThen_ok, List.all_cons, Bool.true_and]
      exact ih
    · have hc' : (xs.getD i 0 == ys.getD i 0) = false := beq_eq_false_iff_ne.2 hc
      simp only [hc', Bool.not_false, if_true, Sem.run_pure, Result.andThen_ok, List.all_cons, Bool.false_and, Bool.false_eq_true, if_false]
theorem all_eq (xs ys : List Nat) (n : Nat) (hx : xs.length = n) (hy : ys.length = n) : ((List.range' 0 n).all fun i => xs.getD i 0 == ys.getD i 0) = decide (xs = ys) := by
  rw [Bool.eq_iff_iff]
  simp only [List.all_eq_true, beq_iff_eq, decide_eq_true_eq]
  constructor
  · intro h
    apply List.ext_getElem (by omega)
    intro i h1 h2
    have := h i (by simp [List.mem_range']; omega)
    simpa [List.getD_eq_getElem?_getD, h1, h2] using this
  · rintro rfl i _
    rfl
theorem run_equal_words {t e : TypeId} {n : Nat} (ht : P.underlying t = some (.array n e)) (he : P.underlying e = some (.int .u64)) {i : TypeInfo} (hi : P.info? e = some i) (hs : i.size = 1) (d : Nat) (xs ys : List Nat) (hx : xs.length = n) (hy : ys.length = n) :
    (Op.equalIn (d + 2) t (.agg (xs.map u64).toArray) (.agg (ys.map u64).toArray)).run P w = .ok (decide (xs = ys)) w := by
  rw [Op.equalIn]
  simp only [Sem.run_bind, Sym.run_underlying ht, Result.andThen_ok, Sym.run_sizeOf hi, hs, Nat.mul_one]
  rw [Std.Legacy.Range.forIn_eq_forIn_range']
  have hsz : (Std.Legacy.Range.size { stop := n, step_pos := Nat.zero_lt_one }) = n := by simp [Std.Legacy.Range.size]
  rw [hsz, run_words_eq d he xs ys _ (fun j hj => by simp [List.mem_range'] at hj; omega), all_eq xs ys n hx hy]
  by_cases h : xs = ys
  · simp [h]
  · simp [h]
end
theorem eq_words (xs ys : List Nat) (hx : xs.length = 9) (hy : ys.length = 9) (w : World) : (Op.equalIn 10000 23 (.agg (xs.map u64).toArray) (.agg (ys.map u64).toArray)).run Try.prog w = .ok (decide (xs = ys)) w := by
  obtain ⟨i, h1, h2, _⟩ := info_of (P := Try.prog) (t := 22) (n := 1) (z := .int .u64 0) (by kernel_rfl)
  exact run_equal_words Try.underlying23 Try.underlying22 h1 h2 9998 xs ys hx hy
end Go.Proofs.Ytnpeilpnpedmcaa
