/-
  The law FnExactSelectP384 returns true for every input, and each argument reads afterwards as it read before: of two lists of words the first is told where the condition is 0, the second where it is 1. No conditions.
-/
import Derived.Test.YtigifpdcamcanaaRow
namespace Go.Proofs.Ytigifpdcamcanaa.ExactSelect
open Go.RowKit Num
open Go.ChangeShapes Go.WideShapes Go.ChangeAt
set_option linter.unusedVariables false

set_option maxHeartbeats 1000000 in
theorem walk (c : Int) (a0 a1 a2 a3 a4 a5 b0 b1 b2 b3 b4 b5 : Nat) (hc : (Lit.int .u64 c).wf = true) (ha : Ws [a0, a1, a2, a3, a4, a5]) (hb : Ws [b0, b1, b2, b3, b4, b5]) (w : World) :
    Calls Try.prog 3 #[.int .u64 c, .agg #[.int .u64 a0, .int .u64 a1, .int .u64 a2, .int .u64 a3, .int .u64 a4, .int .u64 a5], .agg #[.int .u64 b0, .int .u64 b1, .int .u64 b2, .int .u64 b3, .int .u64 b4, .int .u64 b5]] w fun e w' => e = .returned (.bool true) ∧ Below w.heap.size w w' := by
  have hcb := bounds_u64 hc
  have Ha := Lib.hid ha
  have Hb := Lib.hid hb
  clear ha hb hc
  by_cases h1 : 1 < c
  · go_enter Try.func3, Try.ntmps3
    go_wp2
    go_ret
    exact ⟨rfl, below_new (below_new (Below.refl _ _) _) _⟩
  · obtain rfl | rfl : c = 0 ∨ c = 1 := by omega
    · clear hcb h1
      have HS : Hid (∀ w, Calls Try.prog 9 #[.int .u64 0, .agg #[.int .u64 a0, .int .u64 a1, .int .u64 a2, .int .u64 a3, .int .u64 a4, .int .u64 a5], .agg #[.int .u64 b0, .int .u64 b1, .int .u64 b2, .int .u64 b3, .int .u64 b4, .int .u64 b5]] w fun e w' => e = .returned (.agg #[.int .u64 a0, .int .u64 a1, .int .u64 a2, .int .u64 a3, .int .u64 a4, .int .u64 a5]) ∧ Below w.heap.size w w') := fun w => implSelect a0 a1 a2 a3 a4 a5 b0 b1 b2 b3 b4 b5 Ha.out Hb.out 0 (by decide) w
      have heq : ∀ w, (Op.equalIn 10000 23 (.agg #[.int .u64 a0, .int .u64 a1, .int .u64 a2, .int .u64 a3, .int .u64 a4, .int .u64 a5]) (.agg #[.int .u64 a0, .int .u64 a1, .int .u64 a2, .int .u64 a3, .int .u64 a4, .int .u64 a5])).run Try.prog w = .ok true w := fun w => by
        have := eq_words [a0, a1, a2, a3, a4, a5] [a0, a1, a2, a3, a4, a5] rfl rfl w
        simpa [u64] using this
      go_enter Try.func3, Try.ntmps3
      go_wp2
      go_region_held3 (fun w' => w'.cell? ⟨w.heap.size, 0, none⟩ = some (.int .u64 a0) ∧ w'.cell? ⟨w.heap.size, 1, none⟩ = some (.int .u64 a1) ∧ w'.cell? ⟨w.heap.size, 2, none⟩ = some (.int .u64 a2) ∧ w'.cell? ⟨w.heap.size, 3, none⟩ = some (.int .u64 a3) ∧ w'.cell? ⟨w.heap.size, 4, none⟩ = some (.int .u64 a4) ∧ w'.cell? ⟨w.heap.size, 5, none⟩ = some (.int .u64 a5) ∧ w'.cell? ⟨w.heap.size + 1, 0, none⟩ = some (.int .u64 b0) ∧ w'.cell? ⟨w.heap.size + 1, 1, none⟩ = some (.int .u64 b1) ∧ w'.cell? ⟨w.heap.size + 1, 2, none⟩ = some (.int .u64 b2) ∧ w'.cell? ⟨w.heap.size + 1, 3, none⟩ = some (.int .u64 b3) ∧ w'.cell? ⟨w.heap.size + 1, 4, none⟩ = some (.int .u64 b4) ∧ w'.cell? ⟨w.heap.size + 1, 5, none⟩ = some (.int .u64 b5)) (simp [*, go_sem]) (first
        | (go_at_call 9; refine (HS.out _).mono ?_; rintro e w1 ⟨rfl, hb1⟩; have hc1 := fun o => hb1.cell (p := ⟨w.heap.size, o, none⟩) (by simp <;> omega); have hc2 := fun o => hb1.cell (p := ⟨w.heap.size + 1, o, none⟩) (by simp <;> omega)))
      all_goals
        go_wp2
        go_ret
        exact ⟨rfl, below_next (Below.drew (below_new (below_new (Below.refl _ _) _) _)) hb1⟩
    · clear hcb h1
      have HS : Hid (∀ w, Calls Try.prog 9 #[.int .u64 1, .agg #[.int .u64 a0, .int .u64 a1, .int .u64 a2, .int .u64 a3, .int .u64 a4, .int .u64 a5], .agg #[.int .u64 b0, .int .u64 b1, .int .u64 b2, .int .u64 b3, .int .u64 b4, .int .u64 b5]] w fun e w' => e = .returned (.agg #[.int .u64 b0, .int .u64 b1, .int .u64 b2, .int .u64 b3, .int .u64 b4, .int .u64 b5]) ∧ Below w.heap.size w w') := fun w => implSelect a0 a1 a2 a3 a4 a5 b0 b1 b2 b3 b4 b5 Ha.out Hb.out 1 (by decide) w
      have heq : ∀ w, (Op.equalIn 10000 23 (.agg #[.int .u64 b0, .int .u64 b1, .int .u64 b2, .int .u64 b3, .int .u64 b4, .int .u64 b5]) (.agg #[.int .u64 b0, .int .u64 b1, .int .u64 b2, .int .u64 b3, .int .u64 b4, .int .u64 b5])).run Try.prog w = .ok true w := fun w => by
        have := eq_words [b0, b1, b2, b3, b4, b5] [b0, b1, b2, b3, b4, b5] rfl rfl w
        simpa [u64] using this
      go_enter Try.func3, Try.ntmps3
      go_wp2
      go_region_held3 (fun w' => w'.cell? ⟨w.heap.size, 0, none⟩ = some (.int .u64 a0) ∧ w'.cell? ⟨w.heap.size, 1, none⟩ = some (.int .u64 a1) ∧ w'.cell? ⟨w.heap.size, 2, none⟩ = some (.int .u64 a2) ∧ w'.cell? ⟨w.heap.size, 3, none⟩ = some (.int .u64 a3) ∧ w'.cell? ⟨w.heap.size, 4, none⟩ = some (.int .u64 a4) ∧ w'.cell? ⟨w.heap.size, 5, none⟩ = some (.int .u64 a5) ∧ w'.cell? ⟨w.heap.size + 1, 0, none⟩ = some (.int .u64 b0) ∧ w'.cell? ⟨w.heap.size + 1, 1, none⟩ = some (.int .u64 b1) ∧ w'.cell? ⟨w.heap.size + 1, 2, none⟩ = some (.int .u64 b2) ∧ w'.cell? ⟨w.heap.size + 1, 3, none⟩ = some (.int .u64 b3) ∧ w'.cell? ⟨w.heap.size + 1, 4, none⟩ = some (.int .u64 b4) ∧ w'.cell? ⟨w.heap.size + 1, 5, none⟩ = some (.int .u64 b5)) (simp [*, go_sem]) (first
        | (go_at_call 9; refine (HS.out _).mono ?_; rintro e w1 ⟨rfl, hb1⟩; have hc1 := fun o => hb1.cell (p := ⟨w.heap.size, o, none⟩) (by simp <;> omega); have hc2 := fun o => hb1.cell (p := ⟨w.heap.size + 1, o, none⟩) (by simp <;> omega)))
      all_goals
        go_wp2
        go_ret
        exact ⟨rfl, below_next (Below.drew (below_new (below_new (Below.refl _ _) _) _)) hb1⟩

set_option maxRecDepth 100000 in
theorem lifted (os : Os) (started : os.Started) (H : Type) (enc : TypeId × Value → H) :
    ReturnsInHanded {} Try.checked os 3 .any (Rows.fnExactSelectP384Spec.pre6 enc Try.prog Try.f3 Rows.fnExactSelectP384Row.domain false) (Rows.fnExactSelectP384Spec.post enc Try.prog Try.f3 false true false false) := by
  refine returnsInHanded_of_change (C := Try.checked) own started (by kernel_rfl) Try.func3
    (ChangeSpec.witness6 (enc := enc) (C := Try.checked) false ⟨#[], #[.int .u64 0, .agg #[.int .u64 0, .int .u64 0, .int .u64 0, .int .u64 0, .int .u64 0, .int .u64 0], .agg #[.int .u64 0, .int .u64 0, .int .u64 0, .int .u64 0, .int .u64 0, .int .u64 0]], []⟩ 8 (by kernel_rfl) (by kernel_rfl) (by kernel_rfl) (by kernel_rfl)) ?_
  intro W base args ds gs before hval0 hW hcnd _
  have hval : ∀ (j : Nat) t v, Try.f3.params[j]? = some t → args[j]? = some v → Value.okWide Try.prog W .any base t v := hval0
  have hW' := hW
  obtain ⟨p, q, hA0, hV, rfl, hfz, hnd⟩ := hW
  have hA : DataW.TrodAll enc Try.prog W 0 (fun _ => true) true Try.f3.params.toList args.toList ds p := hA0
  rw [Try.params3] at hA hval
  obtain ⟨v0, vs0, d0, ds0, p0, q0, hargs, rfl, rfl, h0, r0⟩ := trodAll_cons hA
  obtain ⟨v1, vs1, d1, ds1, p1, q1, rfl, rfl, rfl, h1, r1⟩ := trodAll_cons r0
  obtain ⟨v2, vs2, d2, ds2, p2, q2, rfl, rfl, rfl, h2, r2⟩ := trodAll_cons r1
  obtain ⟨rfl, rfl, rfl⟩ := trodAll_nil r2
  obtain rfl : args = #[v0, v1, v2] := by cases args; simp_all
  obtain ⟨rfl, rfl⟩ := trodVars_none hV
  obtain ⟨c0, rfl, rfl, rfl, w0⟩ := open_int Try.underlying22 (hval 0 22 v0 rfl rfl) h0
  have k1 := h1
  have lt1 : ∀ x ∈ p1, x.block < W.heap.size := by obtain ⟨m, hm⟩ := k1; exact DataW.trod_lt m _ _ _ hm
  obtain ⟨x1, l1, w1, rfl⟩ := open_words Try.underlying23 Try.underlying22 cells_e cells_t (hval 1 23 v1 rfl rfl) h1
  obtain ⟨a0, a1, a2, a3, a4, a5, rfl⟩ := len_all l1
  have k2 := h2
  have lt2 : ∀ x ∈ p2, x.block < W.heap.size := by obtain ⟨m, hm⟩ := k2; exact DataW.trod_lt m _ _ _ hm
  obtain ⟨x2, l2, w2, rfl⟩ := open_words Try.underlying23 Try.underlying22 cells_e cells_t (hval 2 23 v2 rfl rfl) h2
  obtain ⟨b0, b1, b2, b3, b4, b5, rfl⟩ := len_all l2
  clear hA0 hval0
  refine (walk c0 a0 a1 a2 a3 a4 a5 b0 b1 b2 b3 b4 b5 w0 w1 w2 W).mono fun e W' ⟨he, bel⟩ => ?_
  subst he
  exact ⟨_, rfl, _, _, _, [], _, [], hW', trodAll_mk1 (shut_bool Try.underlying4 _), (trodAll_cons_mk (shut_int Try.underlying22 w0) (trodAll_cons_mk (Below.trod laidOut (by kernel_rfl) (of_decide_eq_true (by kernel_rfl)) k1 bel lt1) (trodAll_cons_mk (Below.trod laidOut (by kernel_rfl) (of_decide_eq_true (by kernel_rfl)) k2 bel lt2) trodAll_mk0))), rfl, bel.frame _, fun h => by cases h⟩

theorem over : Rows.fnExactSelectP384Row.holds Try.pinned (OpenSpec.ofChange Rows.fnExactSelectP384Spec) :=
  OpenClaim.holds_of_wide 3 Try.f3 rfl rfl rfl rfl rfl rfl rfl ⟨rfl, rfl, rfl, rfl, rfl⟩ rfl rfl rfl rfl rfl (by kernel_rfl) Try.func3 (by kernel_rfl)
    (of_decide_eq_true (by kernel_rfl)) (by unfold Func.isWrapper; first | (rw [if_pos (by decide +kernel)]; kernel_rfl) | (rw [if_neg (by decide +kernel)]; exact ⟨rfl, rfl⟩))
    (fun os started H enc _ => lifted os started H enc)

end Go.Proofs.Ytigifpdcamcanaa.ExactSelect
namespace Go.Proofs.Ytigifpdcamcanaa
theorem fnExactSelectP384Holds : Rows.FnExactSelectP384Said := ExactSelect.over
#print axioms fnExactSelectP384Holds
end Go.Proofs.Ytigifpdcamcanaa
