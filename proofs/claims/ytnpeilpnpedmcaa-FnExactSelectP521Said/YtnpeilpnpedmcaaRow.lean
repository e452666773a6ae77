/-
  From a walk of a law to its row: words by value, opened; blocks looked up; what a region keeps.
-/
import Derived.Test.YtnpeilpnpedmcaaEq
import Derived.Test.YtnpeilpnpedmcaaRows
import Derived.Deep.RegionHeld3
import Derived.ProofKit
import Derived.OpenShut
import Derived.ChangeOld
import Derived.Below
namespace Go.Proofs.Ytnpeilpnpedmcaa
open Go.RowKit Num
open Go.ChangeShapes Go.WideShapes Go.ChangeAt

theorem less_prime (xs : List Nat) (g1 g2 : Nat) (t1 t2 : TypeId) (f1 f2 : Nat × Nat) (w : World) (b : Bool) (hb : decide (val xs < prime) = b) (hlx : xs.length = 9) (hwx : Ws xs)
    (hx : w.heap[g1]? = some (.cells (xs.map u64).toArray t1 f1)) (hy : w.heap[g2]? = some (.cells (pwords.map u64).toArray t2 f2)) :
    Calls Try.prog 8 #[.slice (some ⟨g1, 0, none⟩) 9 9, .slice (some ⟨g2, 0, none⟩) 9 9] w fun e w' => e = .returned (.bool b) ∧ ∃ m, w' = w.drewN m := by
  subst hb
  rw [← pwords_val]
  exact less_any xs pwords g1 g2 9 t1 t2 f1 f2 w (by decide) hlx rfl hwx pwords_ws hx hy
theorem has_new {w : World} {o : Obj} {n : Nat} (h : n = w.heap.size) : (w.alloc o).heap[n]? = some o := blk_new w o h
theorem has_old {w : World} {o x : Obj} {n : Nat} (h : w.heap[n]? = some o) : (w.alloc x).heap[n]? = some o := (blk_old w x (size_of h)).trans h
theorem has_drew {w : World} {o : Obj} {n : Nat} (h : w.heap[n]? = some o) : w.drew.heap[n]? = some o := h
theorem has_drewN {w : World} {o : Obj} {n m : Nat} (h : w.heap[n]? = some o) : (w.drewN m).heap[n]? = some o := by rw [drewN_size]; exact h
theorem has_next {w w' : World} {o : Obj} {n : Nat} (hb : Below w.heap.size w w') (h : w.heap[n]? = some o) : w'.heap[n]? = some o := (hb.block n (size_of h)).trans h
theorem below_drewN {B : Nat} {a w : World} (h : Below B a w) (m : Nat) : Below B a (w.drewN m) := by
  induction m with
  | zero => exact h
  | succ m ih => exact ih.drew
theorem below_new {a w : World} (h : Below a.heap.size a w) (o : Obj) : Below a.heap.size a (w.alloc o) := h.alloc h.size o
theorem below_next {a w w' : World} (h : Below a.heap.size a w) (hb : Below w.heap.size w w') : Below a.heap.size a w' := h.trans (hb.mono h.size)

theorem own : ownKnob Try.prog.godebug = none := by kernel_rfl
theorem laidOut : laidOutB Try.prog = true := by kernel_rfl

/-- An array of words by value, opened. -/
theorem open_words {H : Type} {enc : TypeId × Value → H} {P : Program} {w : World} {base : Nat} {spare : Nat → Bool} {held : Bool} {r : Reach} {b0 : Nat} {t e n : Nat} {v : Value} {d : DataW H} {p : List MemPlace}
    (ht : P.underlying t = some (.array n e)) (he : P.underlying e = some (.int .u64)) (hce : P.cellsOf e = 1) (hct : P.cellsOf t = n)
    (hv : Value.okWide P w r b0 t v) (h : DataW.Trod enc P w base spare held t v d p) : ∃ xs : List Nat, xs.length = n ∧ Ws xs ∧ v = .agg (xs.map u64).toArray := by
  unfold Value.okWide at hv
  rw [ht] at hv
  obtain ⟨cs, rfl, hsz, _⟩ := hv
  obtain ⟨fuel, hf⟩ := h
  obtain ⟨ys, m, _, _, _, hl, hall⟩ := DataW.trod_array ht hf
  rw [hct] at hsz
  have key : ∀ i (hi : i < cs.toList.length), ∃ k : Int, cs.toList[i] = .int .u64 k ∧ (Lit.int .u64 k).wf = true := by
    intro i hi
    have hin : i < n := by simpa [hsz] using hi
    have h1 := hall i hin
    rw [hce, Nat.mul_one, List.getElem?_eq_getElem (by omega)] at h1
    obtain ⟨k, e1, _, e3⟩ := DataW.trod_int he h1
    have e1' : (cs.toList.drop i).take 1 = [.int .u64 k] := e1
    rw [List.drop_eq_getElem_cons hi, List.take_succ_cons, List.take_zero] at e1'
    exact ⟨k, by simpa using e1', e3⟩
  refine ⟨cs.toList.map fun v => (intOf v).toNat, by simp [hsz], ?_, ?_⟩
  · intro x hx
    obtain ⟨v, hv, rfl⟩ := List.mem_map.1 hx
    obtain ⟨i, hi, rfl⟩ := List.getElem_of_mem hv
    obtain ⟨k, e1, e2⟩ := key i hi
    have := bounds_u64 e2
    rw [e1]
    simp only [intOf]
    omega
  · congr 1
    apply Array.ext'
    simp only [List.map_map]
    refine (List.ext_getElem (by simp) fun i h1 h2 => ?_).symm
    have hi : i < cs.toList.length := h2
    obtain ⟨k, e1, e2⟩ := key i hi
    have := bounds_u64 e2
    rw [List.getElem_map, e1]
    simp only [Function.comp, intOf, u64]
    congr 1
    omega
theorem cells_e : Try.prog.cellsOf 22 = 1 := by kernel_rfl
theorem cells_t : Try.prog.cellsOf 23 = 9 := by kernel_rfl
end Go.Proofs.Ytnpeilpnpedmcaa
