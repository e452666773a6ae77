/-
  The law FnExactBytesP384 returns true for every input, and each argument reads afterwards as it read before: an element is written as its bytes, the least first. No conditions.
-/
import Derived.Test.YtigifpdcamcanaaRow
namespace Go.Proofs.Ytigifpdcamcanaa.ExactBytes
open Go.RowKit Num
open Go.ChangeShapes Go.WideShapes Go.ChangeAt
set_option linter.unusedVariables false

theorem ret_u8 {x y : Int} (h : x = y) : Ending.returned (.int .u8 x) = .returned (.int .u8 y) := by rw [h]
theorem byteOf_any (xs : List Nat) (g n i : Nat) (t : TypeId) (fr : Nat × Nat) (w : World) (hn : n ≤ 100) (hl : xs.length = n) (hi : i < 8 * n)
    (hx : w.heap[g]? = some (.cells (xs.map u64).toArray t fr)) :
    Calls Try.prog 17 #[.slice (some ⟨g, 0, none⟩) n n, .int .i64 i] w fun e w' => e = .returned (.int .u8 ((byteAt xs i : Nat) : Int)) ∧ w = w' := by
  have c1 := getD_cell hx (i / 8) (by rw [hl]; omega)
  obtain ⟨x, hxd⟩ : ∃ x, x = xs.getD (i / 8) 0 := ⟨_, rfl⟩
  rw [← hxd] at c1
  have Hx := Lib.hid hxd
  clear hxd hx hl
  go_enter Try.func17, Try.ntmps17
  go_wp2
  go_ret
  refine ⟨ret_u8 ?_, rfl⟩
  unfold byteAt
  rw [← Hx.out]
  simp
theorem run_index (xs : List Nat) (i : Nat) (hl : xs.length = 48) (hi : i < 48) (w : World) : (Instr.index 32 (.agg (xs.map u8).toArray) (.int .i64 i)).run Try.prog w = .ok (.int .u8 ((xs.getD i 0 : Nat) : Int)) w := by
  have h1 : (0 : Int) ≤ (i : Int) ∧ (i : Int) < (48 : Nat) := by omega
  obtain ⟨j, k1, k2, _⟩ := info_of (P := Try.prog) (t := 5) (n := 1) (z := .int .u8 0) (by kernel_rfl)
  have hu : (underlying 32).run Try.prog w = .ok (.array 48 5) w := Sym.run_underlying Try.underlying32
  have hu8 : (underlying 5).run Try.prog w = .ok (.int .u8) w := Sym.run_underlying Try.underlying5
  have hsz : (sizeOf 5).run Try.prog w = .ok 1 w := by rw [Sym.run_sizeOf k1, k2]
  have hp : (part 5 (xs.map u8).toArray i).run Try.prog w = .ok (.int .u8 ((xs.getD i 0 : Nat) : Int)) w := by
    have : i < xs.length := by omega
    simp [part, isAgg, hu8, List.getD_eq_getElem?_getD, this, u8]
  simp only [Instr.index, asIntOf, Sem.run_bind, Sem.run_pure, Result.andThen_ok, hu, if_pos h1, hsz, Int.toNat_natCast, Nat.mul_one, hp]
theorem bytesAll_at (xs : List Nat) : ∀ i, i < 48 → (bytesAll xs).getD i 0 = byteAt xs i
  | 0, _ => rfl
  | 1, _ => rfl
  | 2, _ => rfl
  | 3, _ => rfl
  | 4, _ => rfl
  | 5, _ => rfl
  | 6, _ => rfl
  | 7, _ => rfl
  | 8, _ => rfl
  | 9, _ => rfl
  | 10, _ => rfl
  | 11, _ => rfl
  | 12, _ => rfl
  | 13, _ => rfl
  | 14, _ => rfl
  | 15, _ => rfl
  | 16, _ => rfl
  | 17, _ => rfl
  | 18, _ => rfl
  | 19, _ => rfl
  | 20, _ => rfl
  | 21, _ => rfl
  | 22, _ => rfl
  | 23, _ => rfl
  | 24, _ => rfl
  | 25, _ => rfl
  | 26, _ => rfl
  | 27, _ => rfl
  | 28, _ => rfl
  | 29, _ => rfl
  | 30, _ => rfl
  | 31, _ => rfl
  | 32, _ => rfl
  | 33, _ => rfl
  | 34, _ => rfl
  | 35, _ => rfl
  | 36, _ => rfl
  | 37, _ => rfl
  | 38, _ => rfl
  | 39, _ => rfl
  | 40, _ => rfl
  | 41, _ => rfl
  | 42, _ => rfl
  | 43, _ => rfl
  | 44, _ => rfl
  | 45, _ => rfl
  | 46, _ => rfl
  | 47, _ => rfl
  | i + 48, h => by omega

set_option maxHeartbeats 1000000 in
theorem walk (a0 a1 a2 a3 a4 a5 : Nat) (c : Int) (ha : Ws [a0, a1, a2, a3, a4, a5]) (hc : (Lit.int .i64 c).wf = true) (w : World) :
    Calls Try.prog 7 #[.agg #[.int .u64 a0, .int .u64 a1, .int .u64 a2, .int .u64 a3, .int .u64 a4, .int .u64 a5], .int .i64 c] w fun e w' => e = .returned (.bool true) ∧ Below w.heap.size w w' := by
  have Ha := Lib.hid ha
  clear ha hc
  by_cases hlt : val [a0, a1, a2, a3, a4, a5] < prime
  · have Hlt := Lib.hid (decide_eq_true hlt)
    clear hlt
    by_cases hin : 0 ≤ c ∧ c < 48
    · obtain ⟨i, rfl⟩ := Int.eq_ofNat_of_zero_le hin.1
      have hi : i < 48 := by omega
      have hz : decide ((i : Int) < 0) = false := by simp
      have hge : decide ((48 : Int) ≤ (i : Int)) = false := by simp; omega
      have hidx : ∀ w, (Instr.index 32 (.agg ((bytesAll [a0, a1, a2, a3, a4, a5]).map u8).toArray) (.int .i64 i)).run Try.prog w = .ok (.int .u8 ((byteAt [a0, a1, a2, a3, a4, a5] i : Nat) : Int)) w := fun w => by
        have := run_index (bytesAll [a0, a1, a2, a3, a4, a5]) i rfl hi w
        rwa [bytesAll_at _ i hi] at this
      have HB : Hid (∀ g t fr w, w.heap[g]? = some (.cells ([a0, a1, a2, a3, a4, a5].map u64).toArray t fr) → Calls Try.prog 17 #[.slice (some ⟨g, 0, none⟩) 6 6, .int .i64 i] w fun e w' => e = .returned (.int .u8 ((byteAt [a0, a1, a2, a3, a4, a5] i : Nat) : Int)) ∧ w = w') := fun g t fr w hx => byteOf_any [a0, a1, a2, a3, a4, a5] g 6 i t fr w (by decide) rfl (by omega) hx
      generalize byteAt [a0, a1, a2, a3, a4, a5] i = y at *
      clear hin hi
      go_enter Try.func7, Try.ntmps7
      go_wp2
      go_region_held3 (fun _ => True) (trivial) (first | (go_at_call 11; refine (prime_any _).mono ?_; rintro e w' ⟨rfl, rfl⟩) | (go_at_call 10; refine (less_prime [a0, a1, a2, a3, a4, a5] _ _ 23 22 (0, 0) (0, 0) _ true Hlt.out rfl Ha.out ?_ ?_).mono ?_; (repeat (first | assumption | (refine has_new ?_; focus (simp; done)) | (with_reducible apply has_old) | (with_reducible apply has_drewN) | (with_reducible apply has_drew))); rintro e w' ⟨rfl, m, rfl⟩))
      go_wp2
      go_region_held3 (fun w' => w'.cell? ⟨w.heap.size, 0, none⟩ = some (.int .u64 a0) ∧ w'.cell? ⟨w.heap.size, 1, none⟩ = some (.int .u64 a1) ∧ w'.cell? ⟨w.heap.size, 2, none⟩ = some (.int .u64 a2) ∧ w'.cell? ⟨w.heap.size, 3, none⟩ = some (.int .u64 a3) ∧ w'.cell? ⟨w.heap.size, 4, none⟩ = some (.int .u64 a4) ∧ w'.cell? ⟨w.heap.size, 5, none⟩ = some (.int .u64 a5)) (simp [*, go_sem]) (first
        | (go_at_call 16; refine (implBytes a0 a1 a2 a3 a4 a5 Ha.out _).mono ?_; rintro e w1 ⟨rfl, hb1⟩; have hc1 := fun o => hb1.cell (p := ⟨w.heap.size, o, none⟩) (by simp <;> omega))
        | (go_at_call 17; refine (HB.out _ 23 (0, 0) _ (by first | exact has_next hb1 (by repeat (first | assumption | (refine has_new ?_; focus (simp; done)) | (with_reducible apply has_old) | (with_reducible apply has_drewN) | (with_reducible apply has_drew))) | exact (by repeat (first | assumption | (refine has_new ?_; focus (simp; done)) | (with_reducible apply has_old) | (with_reducible apply has_drewN) | (with_reducible apply has_drew))))).mono ?_; rintro e w2 ⟨rfl, rfl⟩))
      all_goals
        go_wp2
        go_ret
        exact ⟨rfl, below_next (below_drewN (below_new (below_new (Below.refl _ _) _) _) _) hb1⟩
    · have Hin := Lib.hid hin
      clear hin
      by_cases hz : c < 0
      · have hz' : decide (c < 0) = true := decide_eq_true hz
        go_enter Try.func7, Try.ntmps7
        go_wp2
        go_region_held3 (fun _ => True) (trivial) (first | (go_at_call 11; refine (prime_any _).mono ?_; rintro e w' ⟨rfl, rfl⟩) | (go_at_call 10; refine (less_prime [a0, a1, a2, a3, a4, a5] _ _ 23 22 (0, 0) (0, 0) _ true Hlt.out rfl Ha.out ?_ ?_).mono ?_; (repeat (first | assumption | (refine has_new ?_; focus (simp; done)) | (with_reducible apply has_old) | (with_reducible apply has_drewN) | (with_reducible apply has_drew))); rintro e w' ⟨rfl, m, rfl⟩))
        go_wp2
        go_ret
        exact ⟨rfl, below_drewN (below_new (below_new (Below.refl _ _) _) _) _⟩
      · have hz' : decide (c < 0) = false := decide_eq_false hz
        have hge : (48 : Int) ≤ c := by have := Hin.out; omega
        go_enter Try.func7, Try.ntmps7
        go_wp2
        go_region_held3 (fun _ => True) (trivial) (first | (go_at_call 11; refine (prime_any _).mono ?_; rintro e w' ⟨rfl, rfl⟩) | (go_at_call 10; refine (less_prime [a0, a1, a2, a3, a4, a5] _ _ 23 22 (0, 0) (0, 0) _ true Hlt.out rfl Ha.out ?_ ?_).mono ?_; (repeat (first | assumption | (refine has_new ?_; focus (simp; done)) | (with_reducible apply has_old) | (with_reducible apply has_drewN) | (with_reducible apply has_drew))); rintro e w' ⟨rfl, m, rfl⟩))
        go_wp2
        go_ret
        exact ⟨rfl, below_drewN (below_new (below_new (Below.refl _ _) _) _) _⟩
  · have Hlt := Lib.hid (decide_eq_false hlt)
    clear hlt
    go_enter Try.func7, Try.ntmps7
    go_wp2
    go_region_held3 (fun _ => True) (trivial) (first | (go_at_call 11; refine (prime_any _).mono ?_; rintro e w' ⟨rfl, rfl⟩) | (go_at_call 10; refine (less_prime [a0, a1, a2, a3, a4, a5] _ _ 23 22 (0, 0) (0, 0) _ false Hlt.out rfl Ha.out ?_ ?_).mono ?_; (repeat (first | assumption | (refine has_new ?_; focus (simp; done)) | (with_reducible apply has_old) | (with_reducible apply has_drewN) | (with_reducible apply has_drew))); rintro e w' ⟨rfl, m, rfl⟩))
    go_wp2
    go_ret
    exact ⟨rfl, below_drewN (below_new (below_new (Below.refl _ _) _) _) _⟩

set_option maxRecDepth 100000 in
theorem lifted (os : Os) (started : os.Started) (H : Type) (enc : TypeId × Value → H) :
    ReturnsInHanded {} Try.checked os 7 .any (Rows.fnExactBytesP384Spec.pre6 enc Try.prog Try.f7 Rows.fnExactBytesP384Row.domain false) (Rows.fnExactBytesP384Spec.post enc Try.prog Try.f7 false true false false) := by
  refine returnsInHanded_of_change (C := Try.checked) own started (by kernel_rfl) Try.func7
    (ChangeSpec.witness6 (enc := enc) (C := Try.checked) false ⟨#[], #[.agg #[.int .u64 0, .int .u64 0, .int .u64 0, .int .u64 0, .int .u64 0, .int .u64 0], .int .i64 0], []⟩ 8 (by kernel_rfl) (by kernel_rfl) (by kernel_rfl) (by kernel_rfl)) ?_
  intro W base args ds gs before hval0 hW hcnd _
  have hval : ∀ (j : Nat) t v, Try.f7.params[j]? = some t → args[j]? = some v → Value.okWide Try.prog W .any base t v := hval0
  have hW' := hW
  obtain ⟨p, q, hA0, hV, rfl, hfz, hnd⟩ := hW
  have hA : DataW.TrodAll enc Try.prog W 0 (fun _ => true) true Try.f7.params.toList args.toList ds p := hA0
  rw [Try.params7] at hA hval
  obtain ⟨v0, vs0, d0, ds0, p0, q0, hargs, rfl, rfl, h0, r0⟩ := trodAll_cons hA
  obtain ⟨v1, vs1, d1, ds1, p1, q1, rfl, rfl, rfl, h1, r1⟩ := trodAll_cons r0
  obtain ⟨rfl, rfl, rfl⟩ := trodAll_nil r1
  obtain rfl : args = #[v0, v1] := by cases args; simp_all
  obtain ⟨rfl, rfl⟩ := trodVars_none hV
  have k0 := h0
  have lt0 : ∀ x ∈ p0, x.block < W.heap.size := by obtain ⟨m, hm⟩ := k0; exact DataW.trod_lt m _ _ _ hm
  obtain ⟨x0, l0, w0, rfl⟩ := open_words Try.underlying23 Try.underlying22 cells_e cells_t (hval 0 23 v0 rfl rfl) h0
  obtain ⟨a0, a1, a2, a3, a4, a5, rfl⟩ := len_all l0
  obtain ⟨c1, rfl, rfl, rfl, w1⟩ := open_int Try.underlying3 (hval 1 3 v1 rfl rfl) h1
  clear hA0 hval0
  refine (walk a0 a1 a2 a3 a4 a5 c1 w0 w1 W).mono fun e W' ⟨he, bel⟩ => ?_
  subst he
  exact ⟨_, rfl, _, _, _, [], _, [], hW', trodAll_mk1 (shut_bool Try.underlying4 _), (trodAll_cons_mk (Below.trod laidOut (by kernel_rfl) (of_decide_eq_true (by kernel_rfl)) k0 bel lt0) (trodAll_cons_mk (shut_int Try.underlying3 w1) trodAll_mk0)), rfl, bel.frame _, fun h => by cases h⟩

theorem over : Rows.fnExactBytesP384Row.holds Try.pinned (OpenSpec.ofChange Rows.fnExactBytesP384Spec) :=
  OpenClaim.holds_of_wide 7 Try.f7 rfl rfl rfl rfl rfl rfl rfl ⟨rfl, rfl, rfl, rfl, rfl⟩ rfl rfl rfl rfl rfl (by kernel_rfl) Try.func7 (by kernel_rfl)
    (of_decide_eq_true (by kernel_rfl)) (by unfold Func.isWrapper; first | (rw [if_pos (by decide +kernel)]; kernel_rfl) | (rw [if_neg (by decide +kernel)]; exact ⟨rfl, rfl⟩))
    (fun os started H enc _ => lifted os started H enc)

end Go.Proofs.Ytigifpdcamcanaa.ExactBytes
namespace Go.Proofs.Ytigifpdcamcanaa
theorem fnExactBytesP384Holds : Rows.FnExactBytesP384Said := ExactBytes.over
#print axioms fnExactBytesP384Holds
end Go.Proofs.Ytigifpdcamcanaa
