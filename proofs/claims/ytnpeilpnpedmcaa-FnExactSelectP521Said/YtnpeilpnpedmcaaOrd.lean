/-
  A region that draws its order, by an invariant of what has been done so far: whatever the order, each step keeps it.
-/
import Derived.Test.YtnpeilpnpedmcaaRow
import Derived.Deep.DeepCutAuto
import Derived.Deep.RegionWith
namespace Go.Proofs.Ytnpeilpnpedmcaa
set_option linter.unusedSimpArgs false
set_option linter.unusedVariables false
open Go.RowKit

def acycB (ops : Array Oper) : Bool :=
  (List.range ops.size).all fun i => match ops[i]? with
    | some o => o.after.all fun e => !Region.binds .any e || decide (e.on < i)
    | none => true
theorem acycB_spec {ops : Array Oper} (h : acycB ops = true) {i : Nat} {o : Oper} (ho : ops[i]? = some o) {e : Edge} (he : e ∈ o.after) (hb : Region.binds .any e = true) : e.on < i := by
  have hi : i < ops.size := (Array.getElem?_eq_some_iff.1 ho).1
  have h1 := List.all_eq_true.1 h i (List.mem_range.2 hi)
  simp only [ho] at h1
  have h2 := (Array.all_eq_true_iff_forall_mem.1 h1) e he
  simpa [hb] using h2

/-- How many operations have not come up yet. -/
def todo (n : Nat) (listed : Array Bool) : Nat := ((List.range n).filter fun i => !listed.getD i true).length
theorem getD_set (listed : Array Bool) (i k : Nat) (hi : i < listed.size) (d : Bool) : (listed.setIfInBounds i true).getD k d = if k = i then true else listed.getD k d := by
  by_cases h : k = i
  · subst h; simp [Array.getD_eq_getD_getElem?, hi]
  · simp [Array.getD_eq_getD_getElem?, h, Array.getElem?_setIfInBounds, Ne.symm h]
theorem todo_set {n i : Nat} {listed : Array Bool} (hs : listed.size = n) (hi : i < n) (hu : listed.getD i true = false) : todo n (listed.setIfInBounds i true) < todo n listed := by
  unfold todo
  have e : ((List.range n).filter fun k => !(listed.setIfInBounds i true).getD k true) = ((List.range n).filter fun k => !listed.getD k true).filter fun k => decide (k ≠ i) := by
    rw [List.filter_filter]
    apply List.filter_congr
    intro k _
    rw [getD_set listed i k (by omega)]
    by_cases h : k = i
    · simp [h]
    · simp [h]
  rw [e]
  apply List.length_filter_lt_length_iff_exists.2
  exact ⟨i, List.mem_filter.2 ⟨List.mem_range.2 hi, by rw [hu]; rfl⟩, by simp⟩

theorem wpAny_inv {P : Program} {ops : Array Oper} {Q : Exit → Act → World → Prop} (hac : acycB ops = true) (J : Array Bool → Act → World → Prop)
    (hs : ∀ (listed : Array Bool) (a : Act) (w : World) (i : Nat) (o : Oper), J listed a w → listed.size = ops.size → ops[i]? = some o → listed.getD i true = false →
      (∀ e ∈ o.after, Region.binds .any e = true → listed.getD e.on false = true) → wpOp P ops Q i (J (listed.setIfInBounds i true)) a w)
    (hq : ∀ (listed : Array Bool) (a : Act) (w : World), (∀ i, i < ops.size → listed.getD i false = true) → J listed a w → Q .normal a w) :
    ∀ (fuel : Nat) (listed : Array Bool) (a : Act) (w : World), listed.size = ops.size → todo ops.size listed ≤ fuel → J listed a w → wpAny P .any ops Q fuel listed a w := by
  have hall : ∀ (listed : Array Bool), listed.size = ops.size → Region.ready .any ops listed = [] → ∀ i, i < ops.size → listed.getD i false = true := by
    intro listed hsz hr i
    induction i using Nat.strongRecOn with
    | _ i ih =>
      intro hi
      cases hl : listed.getD i false with
      | true => rfl
      | false =>
        obtain ⟨o, ho⟩ : ∃ o, ops[i]? = some o := ⟨ops[i], Array.getElem?_eq_getElem hi⟩
        have hm : i ∈ Region.ready .any ops listed := mem_ready.2 ⟨getD_in (by omega) hl, o, ho, fun e he hb => ih _ (acycB_spec hac ho he hb) (by have := acycB_spec hac ho he hb; omega)⟩
        rw [hr] at hm
        cases hm
  intro fuel
  induction fuel with
  | zero =>
    intro listed a w hsz ht hJ
    have hr : Region.ready .any ops listed = [] := by
      rw [List.eq_nil_iff_forall_not_mem]
      intro i hi
      obtain ⟨hu, o, ho, _⟩ := mem_ready.1 hi
      have hlt : i < ops.size := (Array.getElem?_eq_some_iff.1 ho).1
      have := todo_set hsz hlt hu
      omega
    exact ⟨hr, hq listed a w (hall listed hsz hr) hJ⟩
  | succ fuel ih =>
    intro listed a w hsz ht hJ
    refine ⟨fun hr => hq listed a w (hall listed hsz hr) hJ, fun i hi => ?_⟩
    obtain ⟨hu, o, ho, hd⟩ := mem_ready.1 hi
    have hlt : i < ops.size := (Array.getElem?_eq_some_iff.1 ho).1
    have := todo_set hsz hlt hu
    exact wpOp_mono (fun a' w' h => ih _ a' w' (by simpa using hsz) (by omega) h) (hs listed a w i o hJ hsz ho hu hd)

/-- **A region in whatever order, by an invariant.** -/
theorem wp_region_inv {P : Program} {id : Nat} {ops : Array Oper} {Q : Exit → Act → World → Prop} {a : Act} {w : World} (hm : P.follows .mixedOrders = true) (hac : acycB ops = true) (J : Array Bool → Act → World → Prop)
    (h0 : J (Array.replicate ops.size false) a w.drew)
    (hs : ∀ (listed : Array Bool) (a : Act) (w : World) (i : Nat) (o : Oper), J listed a w → listed.size = ops.size → ops[i]? = some o → listed.getD i true = false →
      (∀ e ∈ o.after, Region.binds .any e = true → listed.getD e.on false = true) → wpOp P ops Q i (J (listed.setIfInBounds i true)) a w)
    (hq : ∀ (listed : Array Bool) (a : Act) (w : World), (∀ i, i < ops.size → listed.getD i false = true) → J listed a w → Q .normal a w) : (Code.region id ops true).wp P Q a w := by
  refine wp_region_any hm (wpAny_inv hac J hs hq ops.size _ a _ (by simp) ?_ h0)
  unfold todo
  exact Nat.le_trans (List.length_filter_le _ _) (by simp)
end Go.Proofs.Ytnpeilpnpedmcaa
