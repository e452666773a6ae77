/-
  The law FnExactSelectP521 returns true for every input, and each argument reads afterwards as it read before: of two lists of words the first is told where the condition is 0, the second where it is 1. No conditions.
-/
import Derived.Test.YtnpeilpnpedmcaaLaw
namespace Go.Proofs.Ytnpeilpnpedmcaa.ExactSelect
set_option linter.unusedSimpArgs false
set_option linter.unusedVariables false
open Go.RowKit Num
open Go.ChangeShapes Go.WideShapes Go.ChangeAt

theorem select0_w {ops : Array Oper} {i : Nat} {a : Act} {w : World} {x y z : Operand} {xs ys : List Nat} {ts : Array TypeId} (hlx : xs.length = 9) (hly : ys.length = 9) (wx : Ws xs) (wy : Ws ys) (hg : Gd ops i a = some true) (hop : (ops[i]?).map (·.op) = some (.call { callee := .value (.func 7), args := #[x, y, z], argTypes := ts }))
    (hx : a.eval x = .int .u64 0) (hy : a.eval y = (.agg (xs.map u64).toArray)) (hz : a.eval z = (.agg (ys.map u64).toArray)) : Does Try.prog ops (.is (.agg (xs.map u64).toArray)) i a w := by
  obtain ⟨a0, a1, a2, a3, a4, a5, a6, a7, a8, rfl⟩ := len_all hlx
  obtain ⟨b0, b1, b2, b3, b4, b5, b6, b7, b8, rfl⟩ := len_all hly
  exact does_call hg hop Try.func7 rfl rfl (by simp only [List.map_toArray, List.map_cons, List.map_nil, hx, hy, hz]; rfl) ((implSelect a0 a1 a2 a3 a4 a5 a6 a7 a8 b0 b1 b2 b3 b4 b5 b6 b7 b8 wx wy 0 (by decide) w).mono fun e w' ⟨h1, h2⟩ => ⟨_, h1, h2, rfl⟩)
theorem select1_w {ops : Array Oper} {i : Nat} {a : Act} {w : World} {x y z : Operand} {xs ys : List Nat} {ts : Array TypeId} (hlx : xs.length = 9) (hly : ys.length = 9) (wx : Ws xs) (wy : Ws ys) (hg : Gd ops i a = some true) (hop : (ops[i]?).map (·.op) = some (.call { callee := .value (.func 7), args := #[x, y, z], argTypes := ts }))
    (hx : a.eval x = .int .u64 1) (hy : a.eval y = (.agg (xs.map u64).toArray)) (hz : a.eval z = (.agg (ys.map u64).toArray)) : Does Try.prog ops (.is (.agg (ys.map u64).toArray)) i a w := by
  obtain ⟨a0, a1, a2, a3, a4, a5, a6, a7, a8, rfl⟩ := len_all hlx
  obtain ⟨b0, b1, b2, b3, b4, b5, b6, b7, b8, rfl⟩ := len_all hly
  exact does_call hg hop Try.func7 rfl rfl (by simp only [List.map_toArray, List.map_cons, List.map_nil, hx, hy, hz]; rfl) ((implSelect a0 a1 a2 a3 a4 a5 a6 a7 a8 b0 b1 b2 b3 b4 b5 b6 b7 b8 wx wy 1 (by decide) w).mono fun e w' ⟨h1, h2⟩ => ⟨_, h1, h2, rfl⟩)
set_option maxHeartbeats 1000000 in
theorem walk0 (xs ys : List Nat) (lx : xs.length = 9) (ly : ys.length = 9) (wx : Ws xs) (wy : Ws ys) (w : World) :
    Calls Try.prog 3 #[.int .u64 0, (.agg (xs.map u64).toArray), (.agg (ys.map u64).toArray)] w fun e w' => e = .returned (.bool true) ∧ Below w.heap.size w w' := by
  go_enter Try.func3, Try.ntmps3
  go_upto_region 4 with fail
  refine wp_region_vals (by kernel_rfl) (by kernel_rfl) [11, 12, 13, 14, 15, 16, 6] [.is (.int .u64 0), .is (.agg (xs.map u64).toArray), .is (.agg (ys.map u64).toArray), .is (.agg (xs.map u64).toArray), .is (.agg (xs.map u64).toArray), .is (.bool true), .is (.bool true)] (by kernel_rfl) (by decide) (by kernel_rfl) ?hs4 ?hq4
  case hs4 =>
    intro i hi a' w' hb hr hv
    match i, hi with
    | 0, _ => exact does_move (gd_none rfl) rfl ((hr 0 (by decide)).trans rfl)
    | 1, _ => exact load_w lx (gd_none rfl) rfl ((hr 4 (by decide)).trans rfl) (has_next hb (has_old (has_new rfl)))
    | 2, _ => exact load_w ly (gd_none rfl) rfl ((hr 5 (by decide)).trans rfl) (has_next hb (has_new (by simp)))
    | 3, _ => exact select0_w lx ly wx wy (gd_none rfl) rfl (hv 0 rfl) (hv 1 rfl) (hv 2 rfl)
    | 4, _ => exact load_w lx (gd_none rfl) rfl ((hr 4 (by decide)).trans rfl) (has_next hb (has_old (has_new rfl)))
    | 5, _ => exact eql_w lx lx (gd_none rfl) rfl (hv 3 rfl) (hv 4 rfl) (decide_eq_true rfl) rfl
    | 6, _ => exact does_assign (gd_none rfl) rfl (hv 5 rfl)
    | n + 7, h => exact absurd h (Nat.not_lt.2 (Nat.le_add_left _ _))
  intro a' w4 hsz hdf hbel4 hr hv
  have hput := puts_eta [(11, (.int .u64 0)), (12, (.agg (xs.map u64).toArray)), (13, (.agg (ys.map u64).toArray)), (14, (.agg (xs.map u64).toArray)), (15, (.agg (xs.map u64).toArray)), (16, (.bool true)), (6, (.bool true))] hsz hdf (show List.Nodup [11, 12, 13, 14, 15, 16, 6] by decide) (by kernel_rfl) hr (List.forall_mem_cons.2 ⟨hv 0 (by decide), List.forall_mem_cons.2 ⟨hv 1 (by decide), List.forall_mem_cons.2 ⟨hv 2 (by decide), List.forall_mem_cons.2 ⟨hv 3 (by decide), List.forall_mem_cons.2 ⟨hv 4 (by decide), List.forall_mem_cons.2 ⟨hv 5 (by decide), List.forall_mem_cons.2 ⟨hv 6 (by decide), fun p hp => by cases hp⟩⟩⟩⟩⟩⟩⟩)
  clear hr hv hsz hdf 
  subst hput
  simp only [puts, Act.put, List.foldl_cons, List.foldl_nil, List.setIfInBounds_toArray, List.set_cons_succ, List.set_cons_zero]
  go_wp2
  go_ret
  exact ⟨rfl, below_next (below_new (below_new (Below.refl _ _) _) _) hbel4⟩
set_option maxHeartbeats 1000000 in
theorem walk1 (xs ys : List Nat) (lx : xs.length = 9) (ly : ys.length = 9) (wx : Ws xs) (wy : Ws ys) (w : World) :
    Calls Try.prog 3 #[.int .u64 1, (.agg (xs.map u64).toArray), (.agg (ys.map u64).toArray)] w fun e w' => e = .returned (.bool true) ∧ Below w.heap.size w w' := by
  go_enter Try.func3, Try.ntmps3
  go_upto_region 5 with fail
  refine wp_region_vals (by kernel_rfl) (by kernel_rfl) [17, 18, 19, 20, 21, 22, 6] [.is (.int .u64 1), .is (.agg (xs.map u64).toArray), .is (.agg (ys.map u64).toArray), .is (.agg (ys.map u64).toArray), .is (.agg (ys.map u64).toArray), .is (.bool true), .is (.bool true)] (by kernel_rfl) (by decide) (by kernel_rfl) ?hs4 ?hq4
  case hs4 =>
    intro i hi a' w' hb hr hv
    match i, hi with
    | 0, _ => exact does_move (gd_none rfl) rfl ((hr 0 (by decide)).trans rfl)
    | 1, _ => exact load_w lx (gd_none rfl) rfl ((hr 4 (by decide)).trans rfl) (has_next hb (has_old (has_new rfl)))
    | 2, _ => exact load_w ly (gd_none rfl) rfl ((hr 5 (by decide)).trans rfl) (has_next hb (has_new (by simp)))
    | 3, _ => exact select1_w lx ly wx wy (gd_none rfl) rfl (hv 0 rfl) (hv 1 rfl) (hv 2 rfl)
    | 4, _ => exact load_w ly (gd_none rfl) rfl ((hr 5 (by decide)).trans rfl) (has_next hb (has_new (by simp)))
    | 5, _ => exact eql_w ly ly (gd_none rfl) rfl (hv 3 rfl) (hv 4 rfl) (decide_eq_true rfl) rfl
    | 6, _ => exact does_assign (gd_none rfl) rfl (hv 5 rfl)
    | n + 7, h => exact absurd h (Nat.not_lt.2 (Nat.le_add_left _ _))
  intro a' w4 hsz hdf hbel4 hr hv
  have hput := puts_eta [(17, (.int .u64 1)), (18, (.agg (xs.map u64).toArray)), (19, (.agg (ys.map u64).toArray)), (20, (.agg (ys.map u64).toArray)), (21, (.agg (ys.map u64).toArray)), (22, (.bool true)), (6, (.bool true))] hsz hdf (show List.Nodup [17, 18, 19, 20, 21, 22, 6] by decide) (by kernel_rfl) hr (List.forall_mem_cons.2 ⟨hv 0 (by decide), List.forall_mem_cons.2 ⟨hv 1 (by decide), List.forall_mem_cons.2 ⟨hv 2 (by decide), List.forall_mem_cons.2 ⟨hv 3 (by decide), List.forall_mem_cons.2 ⟨hv 4 (by decide), List.forall_mem_cons.2 ⟨hv 5 (by decide), List.forall_mem_cons.2 ⟨hv 6 (by decide), fun p hp => by cases hp⟩⟩⟩⟩⟩⟩⟩)
  clear hr hv hsz hdf 
  subst hput
  simp only [puts, Act.put, List.foldl_cons, List.foldl_nil, List.setIfInBounds_toArray, List.set_cons_succ, List.set_cons_zero]
  go_wp2
  go_ret
  exact ⟨rfl, below_next (below_new (below_new (Below.refl _ _) _) _) hbel4⟩
set_option maxHeartbeats 1000000 in
theorem walk (c : Int) (a0 a1 a2 a3 a4 a5 a6 a7 a8 b0 b1 b2 b3 b4 b5 b6 b7 b8 : Nat) (hc : (Lit.int .u64 c).wf = true) (ha : Ws [a0, a1, a2, a3, a4, a5, a6, a7, a8]) (hb : Ws [b0, b1, b2, b3, b4, b5, b6, b7, b8]) (w : World) :
    Calls Try.prog 3 #[.int .u64 c, .agg #[.int .u64 a0, .int .u64 a1, .int .u64 a2, .int .u64 a3, .int .u64 a4, .int .u64 a5, .int .u64 a6, .int .u64 a7, .int .u64 a8], .agg #[.int .u64 b0, .int .u64 b1, .int .u64 b2, .int .u64 b3, .int .u64 b4, .int .u64 b5, .int .u64 b6, .int .u64 b7, .int .u64 b8]] w fun e w' => e = .returned (.bool true) ∧ Below w.heap.size w w' := by
  have hcb := bounds_u64 hc
  by_cases h1 : 1 < c
  · have Ha := Lib.hid ha
    have Hb := Lib.hid hb
    clear ha hb hc
    go_enter Try.func3, Try.ntmps3
    go_wp2
    go_ret
    exact ⟨rfl, below_new (below_new (Below.refl _ _) _) _⟩
  · obtain rfl | rfl : c = 0 ∨ c = 1 := by omega
    · exact walk0 [a0, a1, a2, a3, a4, a5, a6, a7, a8] [b0, b1, b2, b3, b4, b5, b6, b7, b8] rfl rfl ha hb w
    · exact walk1 [a0, a1, a2, a3, a4, a5, a6, a7, a8] [b0, b1, b2, b3, b4, b5, b6, b7, b8] rfl rfl ha hb w
set_option maxRecDepth 100000 in
theorem lifted (os : Os) (started : os.Started) (H : Type) (enc : TypeId × Value → H) :
    ReturnsInHanded {} Try.checked os 3 .any (Rows.fnExactSelectP521Spec.pre6 enc Try.prog Try.f3 Rows.fnExactSelectP521Row.domain false) (Rows.fnExactSelectP521Spec.post enc Try.prog Try.f3 false true false false) := by
  refine returnsInHanded_of_change (C := Try.checked) own started (by kernel_rfl) Try.func3
    (ChangeSpec.witness6 (enc := enc) (C := Try.checked) false ⟨#[], #[.int .u64 0, .agg #[.int .u64 0, .int .u64 0, .int .u64 0, .int .u64 0, .int .u64 0, .int .u64 0, .int .u64 0, .int .u64 0, .int .u64 0], .agg #[.int .u64 0, .int .u64 0, .int .u64 0, .int .u64 0, .int .u64 0, .int .u64 0, .int .u64 0, .int .u64 0, .int .u64 0]], []⟩ 8 (by kernel_rfl) (by kernel_rfl) (by kernel_rfl) (by kernel_rfl)) ?_
  intro W base args ds gs before hval0 hW hcnd _
  have hval : ∀ (j : Nat) t v, Try.f3.params[j]? = some t → args[j]? = some v → Value.okWide Try.prog W .any base t v := hval0
  have hW' := hW
  obtain ⟨p, q, hA0, hV, rfl, hfz, hnd⟩ := hW
  have hA : DataW.TrodAll enc Try.prog W 0 (fun _ => true) true Try.f3.params.toList args.toList ds p := hA0
  rw [Try.params3] at hA hval
  obtain ⟨v0, vs0, d0, ds0, p0, q0, hargs, rfl, rfl, h0, r0⟩ := trodAll_cons hA
  obtain ⟨v1, vs1, d1, ds1, p1, q1, rfl, rfl, rfl, h1, r1⟩ := trodAll_cons r0
  obtain ⟨v2, vs2, d2, ds2, p2, q2, rfl, rfl, rfl, h2, r2⟩ := trodAll_cons r1
  obtain ⟨rfl, rfl, rfl⟩ := trodAll_nil r2
  obtain rfl : args = #[v0, v1, v2] := by cases args; simp_all
  obtain ⟨rfl, rfl⟩ := trodVars_none hV
  obtain ⟨c0, rfl, rfl, rfl, w0⟩ := open_int Try.underlying22 (hval 0 22 v0 rfl rfl) h0
  have k1 := h1
  have lt1 : ∀ x ∈ p1, x.block < W.heap.size := by obtain ⟨m, hm⟩ := k1; exact DataW.trod_lt m _ _ _ hm
  obtain ⟨x1, l1, w1, rfl⟩ := open_words Try.underlying23 Try.underlying22 cells_e cells_t (hval 1 23 v1 rfl rfl) h1
  obtain ⟨a0, a1, a2, a3, a4, a5, a6, a7, a8, rfl⟩ := len_all l1
  have k2 := h2
  have lt2 : ∀ x ∈ p2, x.block < W.heap.size := by obtain ⟨m, hm⟩ := k2; exact DataW.trod_lt m _ _ _ hm
  obtain ⟨x2, l2, w2, rfl⟩ := open_words Try.underlying23 Try.underlying22 cells_e cells_t (hval 2 23 v2 rfl rfl) h2
  obtain ⟨b0, b1, b2, b3, b4, b5, b6, b7, b8, rfl⟩ := len_all l2
  clear hA0 hval0
  refine (walk c0 a0 a1 a2 a3 a4 a5 a6 a7 a8 b0 b1 b2 b3 b4 b5 b6 b7 b8 w0 w1 w2 W).mono fun e W' ⟨he, bel⟩ => ?_
  subst he
  exact ⟨_, rfl, _, _, _, [], _, [], hW', trodAll_mk1 (shut_bool Try.underlying4 _), (trodAll_cons_mk (shut_int Try.underlying22 w0) (trodAll_cons_mk (Below.trod laidOut (by kernel_rfl) (of_decide_eq_true (by kernel_rfl)) k1 bel lt1) (trodAll_cons_mk (Below.trod laidOut (by kernel_rfl) (of_decide_eq_true (by kernel_rfl)) k2 bel lt2) trodAll_mk0))), rfl, bel.frame _, fun h => by cases h⟩

theorem over : Rows.fnExactSelectP521Row.holds Try.pinned (OpenSpec.ofChange Rows.fnExactSelectP521Spec) :=
  OpenClaim.holds_of_wide 3 Try.f3 rfl rfl rfl rfl rfl rfl rfl ⟨rfl, rfl, rfl, rfl, rfl⟩ rfl rfl rfl rfl rfl (by kernel_rfl) Try.func3 (by kernel_rfl)
    (of_decide_eq_true (by kernel_rfl)) (by unfold Func.isWrapper; first | (rw [if_pos (by decide +kernel)]; kernel_rfl) | (rw [if_neg (by decide +kernel)]; exact ⟨rfl, rfl⟩))
    (fun os started H enc _ => lifted os started H enc)

end Go.Proofs.Ytnpeilpnpedmcaa.ExactSelect
namespace Go.Proofs.Ytnpeilpnpedmcaa
theorem fnExactSelectP521Holds : Rows.FnExactSelectP521Said := ExactSelect.over
#print axioms fnExactSelectP521Holds
end Go.Proofs.Ytnpeilpnpedmcaa
