/-
  A call of a straight-line function through pointers to blocks that are known: what it computes, and that all else stays.
-/
import Derived.Test.YtnpeilpnpedmcaaSound
import Derived.Test.YtnpeilpnpedmcaaNum
namespace Go.Proofs.Ytnpeilpnpedmcaa.Sym
open Go.RowKit

def run (cx : Cx) (fn : Func) (args : List SV) (heap : List (List SV × TypeId)) (k : Nat) : Option (List (List SV × TypeId) × List R) :=
  match fn.body with
  | some c => match body cx fn.ntmps c { regs := regsOf 0 args, heap := heap, next := k } with
    | some x => some (x.1.heap, x.2)
    | none => none
  | none => none

def mkEnv (v : Nat → Nat) (hv : ∀ i, v i < 18446744073709551616) (gs : List Nat) (base : Nat) : Env where
  v := v
  loc := fun i => match gs[i]? with
    | some g => g
    | none => base + (i - gs.length)
  lt := hv

theorem mkEnv_lrel (v : Nat → Nat) (hv : ∀ i, v i < 18446744073709551616) {gs : List Nat} {base : Nat} (hnd : gs.Nodup) (hlt : ∀ g ∈ gs, g < base) : LRel (mkEnv v hv gs base) base gs.length := by
  have hin : ∀ i, i < gs.length → ∃ g, gs[i]? = some g ∧ g < base := fun i hi => ⟨gs[i], List.getElem?_eq_getElem hi, hlt _ (List.getElem_mem hi)⟩
  have hout : ∀ i, gs.length ≤ i → gs[i]? = none := fun i hi => List.getElem?_eq_none hi
  refine ⟨fun i j h => ?_, fun i hi => ?_, fun i hi => ?_⟩
  · simp only [mkEnv] at h
    by_cases hi : i < gs.length
    · obtain ⟨g, e1, l1⟩ := hin i hi
      by_cases hj : j < gs.length
      · obtain ⟨g', e2, l2⟩ := hin j hj
        simp only [e1, e2] at h
        subst h
        rw [List.getElem?_eq_getElem hi] at e1
        rw [List.getElem?_eq_getElem hj] at e2
        have e3 : gs[i] = gs[j] := by rw [Option.some.inj e1, Option.some.inj e2]
        have hp := List.pairwise_iff_getElem.1 hnd
        rcases Nat.lt_trichotomy i j with h1 | h1 | h1
        · exact absurd e3 (hp i j hi hj h1)
        · exact h1
        · exact absurd e3.symm (hp j i hj hi h1)
      · simp only [e1, hout j (by omega)] at h
        omega
    · by_cases hj : j < gs.length
      · obtain ⟨g', e2, l2⟩ := hin j hj
        simp only [e2, hout i (by omega)] at h
        omega
      · simp only [hout i (by omega), hout j (by omega)] at h
        omega
  · obtain ⟨g, e1, l1⟩ := hin i hi
    simp only [mkEnv, e1]
    exact l1
  · simp only [mkEnv, hout i hi]

/-- Block g has been written whole; nothing else that was there has changed. -/
structure Wrote (g : Nat) (o : Obj) (w w' : World) : Prop where
  os : w'.os = w.os
  tape : w'.tape = w.tape
  output : w'.output = w.output
  size : w.heap.size ≤ w'.heap.size
  blk : w'.heap[g]? = some o
  old : ∀ k, k < w.heap.size → k ≠ g → w'.heap[k]? = w.heap[k]?

theorem call_leaf {P : Program} {cx : Cx} (F : Facts P cx) {f : FuncId} {fn : Func} (hf : P.funcs[f]? = some fn) (hr : fn.results = #[]) {args : List SV} (hlen : args.length ≤ fn.ntmps)
    {g0 : Nat} {gs : List Nat} {w : World} (hnd : (g0 :: gs).Nodup) (hlt : ∀ x ∈ g0 :: gs, x < w.heap.size) {c : List SV} {t : TypeId} {heap new : List (List SV × TypeId)} {k : Nat} {c0 : List SV} {rs : List R}
    (hhl : heap.length = gs.length) (h : run cx fn args ((c0, t) :: heap) k = some ((c, t) :: (heap ++ new), rs))
    (v : Nat → Nat) (hv : ∀ i, v i < 18446744073709551616) (hR : ∀ r ∈ rs, r.holds v)
    (h0 : w.heap[g0]? = some (.cells (c0.map (SV.den (mkEnv v hv (g0 :: gs) w.heap.size))).toArray t (0, 0)))
    (hW : ∀ (i : Nat) (c : List SV) (t : TypeId) (g : Nat), heap[i]? = some (c, t) → gs[i]? = some g → w.heap[g]? = some (.cells (c.map (SV.den (mkEnv v hv (g0 :: gs) w.heap.size))).toArray t (0, 0))) :
    Calls P f (args.map (SV.den (mkEnv v hv (g0 :: gs) w.heap.size))).toArray w fun e w' => e = .returned (.tuple #[]) ∧ Wrote g0 (.cells (c.map (SV.den (mkEnv v hv (g0 :: gs) w.heap.size))).toArray t (0, 0)) w w' := by
  unfold run at h
  split at h
  · rename_i code hb
    split at h
    · rename_i x hx
      obtain ⟨st1, rs1⟩ := x
      simp only [Option.some.injEq, Prod.mk.injEq] at h
      obtain ⟨h1, rfl⟩ := h
      have lr := mkEnv_lrel v hv hnd hlt
      have hrel : WRel (mkEnv v hv (g0 :: gs) w.heap.size) w w.heap.size (g0 :: gs).length ((c0, t) :: heap) w := by
        refine ⟨rfl, rfl, rfl, by simp [hhl], by simp [hhl], fun i c' t' hi => ?_, fun _ _ _ => rfl⟩
        cases i with
        | zero =>
          simp only [List.getElem?_cons_zero, Option.some.injEq, Prod.mk.injEq] at hi
          obtain ⟨rfl, rfl⟩ := hi
          exact h0
        | succ i =>
          simp only [List.getElem?_cons_succ] at hi
          have hil : i < gs.length := by rw [← hhl]; exact (List.getElem?_eq_some_iff.1 hi).1
          have hg : gs[i]? = some gs[i] := List.getElem?_eq_getElem hil
          have hloc : (mkEnv v hv (g0 :: gs) w.heap.size).loc (i + 1) = gs[i] := by simp only [mkEnv, List.getElem?_cons_succ, hg]
          rw [hloc]
          exact hW i c' t' _ hi hg
      refine (call_sound F lr hf hb rfl hr hlen hx hR hrel).mono ?_
      rintro e w' ⟨he, hw⟩
      rw [h1] at hw
      refine ⟨he, hw.os, hw.tape, hw.output, ?_, hw.blk 0 c t rfl, fun j hj hne => ?_⟩
      · have := hw.size
        simp only [List.length_cons, List.length_append] at this
        omega
      · by_cases hm : j ∈ gs
        · obtain ⟨i, hil, rfl⟩ := List.getElem_of_mem hm
          have hg : gs[i]? = some gs[i] := List.getElem?_eq_getElem hil
          have hih : i < heap.length := by omega
          obtain ⟨ci, ti, e1⟩ : ∃ ci ti, heap[i]? = some (ci, ti) := ⟨heap[i].1, heap[i].2, List.getElem?_eq_getElem hih⟩
          have hloc : (mkEnv v hv (g0 :: gs) w.heap.size).loc (i + 1) = gs[i] := by simp only [mkEnv, List.getElem?_cons_succ, hg]
          have e2 := hw.blk (i + 1) ci ti (by rw [List.getElem?_cons_succ, List.getElem?_append_left hih]; exact e1)
          rw [hloc] at e2
          rw [e2, hW i ci ti _ e1 hg]
        · refine hw.old j hj fun i hi => ?_
          cases i with
          | zero => exact fun e => hne e.symm
          | succ i =>
            have hil : i < gs.length := by simpa using hi
            have hg : gs[i]? = some gs[i] := List.getElem?_eq_getElem hil
            simp only [mkEnv, List.getElem?_cons_succ, hg]
            exact fun e => hm (e ▸ List.getElem_mem hil)
    · cases h
  · cases h

theorem AddC.nil (c : Nat) : Num.AddC [] [] c [] c := rfl
theorem AddC.cons {x y c z d : Nat} {xs ys zs : List Nat} {c' : Nat} (h : z = (x + y + c) % 18446744073709551616) (hd : d = (x + y + c) / 18446744073709551616) (h' : Num.AddC xs ys d zs c') : Num.AddC (x :: xs) (y :: ys) c (z :: zs) c' := by
  subst hd; exact ⟨h, h'⟩
theorem SubC.nil (c : Nat) : Num.SubC [] [] c [] c := rfl
theorem SubC.cons {x y c z d : Nat} {xs ys zs : List Nat} {c' : Nat} (h : z = (x + 18446744073709551616 - y - c) % 18446744073709551616) (hd : d = bor x (y + c)) (h' : Num.SubC xs ys d zs c') : Num.SubC (x :: xs) (y :: ys) c (z :: zs) c' := by
  subst hd; exact ⟨h, h'⟩
end Go.Proofs.Ytnpeilpnpedmcaa.Sym
