/-
  The law FnBytesBackP384 returns true for every input, and its argument reads afterwards as it read before: an element is read again from the bytes that it is written as. No conditions.
-/
import Derived.Test.YtigifpdcamcanaaRow
namespace Go.Proofs.Ytigifpdcamcanaa.BytesBack
open Go.RowKit Num
open Go.ChangeShapes Go.WideShapes Go.ChangeAt
set_option linter.unusedVariables false

theorem words_back (a0 a1 a2 a3 a4 a5 : Nat) (ha : Ws [a0, a1, a2, a3, a4, a5]) (h : val [a0, a1, a2, a3, a4, a5] < prime) : wordsB (bytesAll [a0, a1, a2, a3, a4, a5]) = [a0, a1, a2, a3, a4, a5] :=
  cons2 (unbytes8 ha.head) (cons2 (unbytes8 ha.tail.head) (cons2 (unbytes8 ha.tail.tail.head) (cons2 (unbytes8 ha.tail.tail.tail.head) (cons2 (unbytes8 ha.tail.tail.tail.tail.head) (cons2 (unbytes8 ha.tail.tail.tail.tail.tail.head) (rfl))))))
theorem bytes_lt (xs : List Nat) : ∀ x ∈ bytesAll xs, x < 256 := by
  intro x hx
  simp only [bytesAll, List.mem_cons, List.not_mem_nil, or_false] at hx
  rcases hx with rfl | rfl | rfl | rfl | rfl | rfl | rfl | rfl | rfl | rfl | rfl | rfl | rfl | rfl | rfl | rfl | rfl | rfl | rfl | rfl | rfl | rfl | rfl | rfl | rfl | rfl | rfl | rfl | rfl | rfl | rfl | rfl | rfl | rfl | rfl | rfl | rfl | rfl | rfl | rfl | rfl | rfl | rfl | rfl | rfl | rfl | rfl | rfl <;> exact byteAt_lt _ _
theorem words_bytes (a0 a1 a2 a3 a4 a5 : Nat) (ha : Ws [a0, a1, a2, a3, a4, a5]) (h : val [a0, a1, a2, a3, a4, a5] < prime) (w : World) :
    Calls Try.prog 18 #[.agg ((bytesAll [a0, a1, a2, a3, a4, a5]).map u8).toArray] w fun e w' => e = .returned (.agg #[.int .u64 a0, .int .u64 a1, .int .u64 a2, .int .u64 a3, .int .u64 a4, .int .u64 a5]) ∧ Below w.heap.size w w' := by
  have := implWords (bytesAll [a0, a1, a2, a3, a4, a5]) rfl (bytes_lt _) w
  unfold bytesOf at this
  rw [words_back a0 a1 a2 a3 a4 a5 ha h] at this
  exact this

set_option maxHeartbeats 1000000 in
theorem walk (a0 a1 a2 a3 a4 a5 : Nat) (ha : Ws [a0, a1, a2, a3, a4, a5]) (w : World) :
    Calls Try.prog 8 #[.agg #[.int .u64 a0, .int .u64 a1, .int .u64 a2, .int .u64 a3, .int .u64 a4, .int .u64 a5]] w fun e w' => e = .returned (.bool true) ∧ Below w.heap.size w w' := by
  have Ha := Lib.hid ha
  clear ha
  by_cases hlt : val [a0, a1, a2, a3, a4, a5] < prime
  · have Hlt := Lib.hid (decide_eq_true hlt)
    have Hv := Lib.hid hlt
    have heq : ∀ w, (Op.equalIn 10000 23 (.agg #[.int .u64 a0, .int .u64 a1, .int .u64 a2, .int .u64 a3, .int .u64 a4, .int .u64 a5]) (.agg #[.int .u64 a0, .int .u64 a1, .int .u64 a2, .int .u64 a3, .int .u64 a4, .int .u64 a5])).run Try.prog w = .ok true w := fun w => by
      have := eq_words [a0, a1, a2, a3, a4, a5] [a0, a1, a2, a3, a4, a5] rfl rfl w
      simpa [u64] using this
    clear hlt
    go_enter Try.func8, Try.ntmps8
    go_wp2
    go_region_held3 (fun _ => True) (trivial) (first | (go_at_call 11; refine (prime_any _).mono ?_; rintro e w' ⟨rfl, rfl⟩) | (go_at_call 10; refine (less_prime [a0, a1, a2, a3, a4, a5] _ _ 23 22 (0, 0) (0, 0) _ true Hlt.out rfl Ha.out ?_ ?_).mono ?_; (repeat (first | assumption | (refine has_new ?_; focus (simp; done)) | (with_reducible apply has_old) | (with_reducible apply has_drewN) | (with_reducible apply has_drew))); rintro e w' ⟨rfl, m, rfl⟩))
    go_wp2
    go_region_held3 (fun w' => w'.cell? ⟨w.heap.size, 0, none⟩ = some (.int .u64 a0) ∧ w'.cell? ⟨w.heap.size, 1, none⟩ = some (.int .u64 a1) ∧ w'.cell? ⟨w.heap.size, 2, none⟩ = some (.int .u64 a2) ∧ w'.cell? ⟨w.heap.size, 3, none⟩ = some (.int .u64 a3) ∧ w'.cell? ⟨w.heap.size, 4, none⟩ = some (.int .u64 a4) ∧ w'.cell? ⟨w.heap.size, 5, none⟩ = some (.int .u64 a5)) (simp [*, go_sem]) (first
      | (go_at_call 16; refine (implBytes a0 a1 a2 a3 a4 a5 Ha.out _).mono ?_; rintro e w1 ⟨rfl, hb1⟩; have hc1 := fun o => hb1.cell (p := ⟨w.heap.size, o, none⟩) (by simp <;> omega))
      | (go_at_call 18; refine (words_bytes a0 a1 a2 a3 a4 a5 Ha.out Hv.out _).mono ?_; rintro e w2 ⟨rfl, hb2⟩; have hc2 := fun o => hb2.cell (p := ⟨w.heap.size, o, none⟩) (by have := hb1.size; simp at this ⊢; omega)))
    go_wp2
    go_ret
    exact ⟨rfl, below_next (below_next (below_drewN (below_new (below_new (Below.refl _ _) _) _) _) hb1) hb2⟩
  · have Hlt := Lib.hid (decide_eq_false hlt)
    clear hlt
    go_enter Try.func8, Try.ntmps8
    go_wp2
    go_region_held3 (fun _ => True) (trivial) (first | (go_at_call 11; refine (prime_any _).mono ?_; rintro e w' ⟨rfl, rfl⟩) | (go_at_call 10; refine (less_prime [a0, a1, a2, a3, a4, a5] _ _ 23 22 (0, 0) (0, 0) _ false Hlt.out rfl Ha.out ?_ ?_).mono ?_; (repeat (first | assumption | (refine has_new ?_; focus (simp; done)) | (with_reducible apply has_old) | (with_reducible apply has_drewN) | (with_reducible apply has_drew))); rintro e w' ⟨rfl, m, rfl⟩))
    go_wp2
    go_ret
    exact ⟨rfl, below_drewN (below_new (below_new (Below.refl _ _) _) _) _⟩

set_option maxRecDepth 100000 in
theorem lifted (os : Os) (started : os.Started) (H : Type) (enc : TypeId × Value → H) :
    ReturnsInHanded {} Try.checked os 8 .any (Rows.fnBytesBackP384Spec.pre6 enc Try.prog Try.f8 Rows.fnBytesBackP384Row.domain false) (Rows.fnBytesBackP384Spec.post enc Try.prog Try.f8 false true false false) := by
  refine returnsInHanded_of_change (C := Try.checked) own started (by kernel_rfl) Try.func8
    (ChangeSpec.witness6 (enc := enc) (C := Try.checked) false ⟨#[], #[.agg #[.int .u64 0, .int .u64 0, .int .u64 0, .int .u64 0, .int .u64 0, .int .u64 0]], []⟩ 8 (by kernel_rfl) (by kernel_rfl) (by kernel_rfl) (by kernel_rfl)) ?_
  intro W base args ds gs before hval0 hW hcnd _
  have hval : ∀ (j : Nat) t v, Try.f8.params[j]? = some t → args[j]? = some v → Value.okWide Try.prog W .any base t v := hval0
  have hW' := hW
  obtain ⟨p, q, hA0, hV, rfl, hfz, hnd⟩ := hW
  have hA : DataW.TrodAll enc Try.prog W 0 (fun _ => true) true Try.f8.params.toList args.toList ds p := hA0
  rw [Try.params8] at hA hval
  obtain ⟨v0, vs0, d0, ds0, p0, q0, hargs, rfl, rfl, h0, r0⟩ := trodAll_cons hA
  obtain ⟨rfl, rfl, rfl⟩ := trodAll_nil r0
  obtain rfl : args = #[v0] := by cases args; simp_all
  obtain ⟨rfl, rfl⟩ := trodVars_none hV
  have k0 := h0
  have lt0 : ∀ x ∈ p0, x.block < W.heap.size := by obtain ⟨m, hm⟩ := k0; exact DataW.trod_lt m _ _ _ hm
  obtain ⟨x0, l0, w0, rfl⟩ := open_words Try.underlying23 Try.underlying22 cells_e cells_t (hval 0 23 v0 rfl rfl) h0
  obtain ⟨a0, a1, a2, a3, a4, a5, rfl⟩ := len_all l0
  clear hA0 hval0
  refine (walk a0 a1 a2 a3 a4 a5 w0 W).mono fun e W' ⟨he, bel⟩ => ?_
  subst he
  exact ⟨_, rfl, _, _, _, [], _, [], hW', trodAll_mk1 (shut_bool Try.underlying4 _), (trodAll_cons_mk (Below.trod laidOut (by kernel_rfl) (of_decide_eq_true (by kernel_rfl)) k0 bel lt0) trodAll_mk0), rfl, bel.frame _, fun h => by cases h⟩

theorem over : Rows.fnBytesBackP384Row.holds Try.pinned (OpenSpec.ofChange Rows.fnBytesBackP384Spec) :=
  OpenClaim.holds_of_wide 8 Try.f8 rfl rfl rfl rfl rfl rfl rfl ⟨rfl, rfl, rfl, rfl, rfl⟩ rfl rfl rfl rfl rfl (by kernel_rfl) Try.func8 (by kernel_rfl)
    (of_decide_eq_true (by kernel_rfl)) (by unfold Func.isWrapper; first | (rw [if_pos (by decide +kernel)]; kernel_rfl) | (rw [if_neg (by decide +kernel)]; exact ⟨rfl, rfl⟩))
    (fun os started H enc _ => lifted os started H enc)

end Go.Proofs.Ytigifpdcamcanaa.BytesBack
namespace Go.Proofs.Ytigifpdcamcanaa
theorem fnBytesBackP384Holds : Rows.FnBytesBackP384Said := BytesBack.over
#print axioms fnBytesBackP384Holds
end Go.Proofs.Ytigifpdcamcanaa
