/-
  The reference: the sum modulo the prime, and whether two numbers are the same.
-/
import Derived.Test.YtnpeilpnpedmcaaSum
import Derived.LoopTactic
import Derived.Deep.QuietTactic
import Derived.BigQuiet
namespace Go.Proofs.Ytnpeilpnpedmcaa
set_option linter.unusedSimpArgs false
set_option linter.unusedVariables false
open Go.RowKit Num

theorem am1 {p X Y Z D k M : Nat} (hX : X < p) (hY : Y < p) (hp : p ≤ M) (h1 : Z + M = X + Y) (h2 : D + p = Z + k * M) (hk : k ≤ 1) (hD : D < M) : D = (X + Y) % p := by
  obtain rfl | rfl : k = 0 ∨ k = 1 := by omega
  · omega
  · rw [← Nat.mod_eq_of_lt (show D < p by omega), show X + Y = D + p by omega, Nat.add_mod_right]
theorem am2 {p X Y Z D k M : Nat} (hX : X < p) (hY : Y < p) (hp : p ≤ M) (h1 : Z = X + Y) (hZ : ¬ Z < p) (h2 : D + p = Z + k * M) (hk : k ≤ 1) (hD : D < M) : D = (X + Y) % p := by
  obtain rfl | rfl : k = 0 ∨ k = 1 := by omega
  · rw [← Nat.mod_eq_of_lt (show D < p by omega), show X + Y = D + p by omega, Nat.add_mod_right]
  · omega
theorem am3 {p X Y Z : Nat} (h1 : Z = X + Y) (hZ : Z < p) : Z = (X + Y) % p := by rw [← h1, Nat.mod_eq_of_lt hZ]
theorem prime_le : prime ≤ 18446744073709551616 ^ 9 := by decide +kernel
theorem pw_len : pwords.length = 9 := rfl
set_option maxHeartbeats 1000000 in
theorem addWords_any (xs ys zs : List Nat) (g1 g2 g3 : Nat) (t1 t2 t3 : TypeId) (f1 f2 f3 : Nat × Nat) (w : World) (hlx : xs.length = 9) (hly : ys.length = 9) (hwx : Ws xs) (hwy : Ws ys) (px : val xs < prime) (py : val ys < prime) (hz : wordsOf 9 ((val xs + val ys) % prime) = zs)
    (hx : w.heap[g1]? = some (.cells (xs.map u64).toArray t1 f1)) (hy : w.heap[g2]? = some (.cells (ys.map u64).toArray t2 f2)) (hp : w.heap[g3]? = some (.cells (pwords.map u64).toArray t3 f3)) :
    Calls Try.prog 12 #[.slice (some ⟨g1, 0, none⟩) 9 9, .slice (some ⟨g2, 0, none⟩) 9 9, .slice (some ⟨g3, 0, none⟩) 9 9] w fun e w' => ∃ g : Nat, e = .returned (.slice (some ⟨g, 0, none⟩) 9 9) ∧ Below w.heap.size w w' ∧ w'.heap[g]? = some (.cells (zs.map u64).toArray 22 (0, 0)) := by
  have hplus := Lib.hid (plus_any xs ys g1 g2 t1 t2 f1 f2 w hlx hly hwx hwy hx hy)
  have HP := Lib.hid hp
  have HZ := Lib.hid hz
  have PX := Lib.hid px
  have PY := Lib.hid py
  clear hx hy hp hlx hly hwx hwy hz px py
  go_enter Try.func12, Try.ntmps12
  go_wp2_with fail
  refine hplus.out.mono ?_
  rintro e w1 ⟨g, k, os, rfl, hb, hg, lo, wo, hk, hv⟩
  have HP1 := Lib.hid (has_next hb HP.out)
  have HG := Lib.hid hg
  have HB := Lib.hid hb
  have WO := Lib.hid wo
  have LO := Lib.hid lo
  have HV := Lib.hid hv
  clear hplus hg hb wo lo hv
  have hless := fun (w1 : World) (hG : w1.heap[g]? = some (.cells (os.map u64).toArray 22 (0, 0))) (hP : w1.heap[g3]? = some (.cells (pwords.map u64).toArray t3 f3)) => lessen_any os pwords g g3 _ _ _ _ w1 LO.out pw_len WO.out pwords_ws hG hP
  have HLS := Lib.hid hless
  clear hless
  obtain rfl | rfl : k = 0 ∨ k = 1 := by omega
  · by_cases hlt : val os < prime
    · have HLT := Lib.hid (less_prime os g g3 _ _ _ _ w1 true (decide_eq_true hlt) LO.out WO.out HG.out HP1.out)
      have HT := Lib.hid hlt
      clear hlt
      go_wp2_with fail
      refine HLT.out.mono ?_
      rintro e w2 ⟨rfl, m, rfl⟩
      go_wp2_with fail
      go_ret
      refine ⟨g, rfl, below_drewN HB.out m, ?_⟩
      have h1 := HV.out
      rw [Nat.zero_mul, Nat.add_zero] at h1
      rw [← HZ.out, wordsOf_of WO.out LO.out (am3 h1 HT.out)]
      exact has_drewN HG.out
    · have HLT := Lib.hid (less_prime os g g3 _ _ _ _ w1 false (decide_eq_false hlt) LO.out WO.out HG.out HP1.out)
      have HT := Lib.hid hlt
      clear hlt
      go_wp2_with fail
      refine HLT.out.mono ?_
      rintro e w2 ⟨rfl, m, rfl⟩
      go_wp2_with fail
      refine (HLS.out _ (has_drewN HG.out) (has_drewN HP1.out)).mono ?_
      rintro e w3 ⟨g', k', ds, rfl, hb3, hg3, ld, wd, hk3, hv3⟩
      go_wp2_with fail
      go_ret
      refine ⟨g', rfl, below_next (below_drewN HB.out m) hb3, ?_⟩
      have h1 := HV.out
      rw [Nat.zero_mul, Nat.add_zero] at h1
      have hd := val_lt _ wd
      rw [ld] at hd
      rw [pwords_val] at hv3
      rw [← HZ.out, wordsOf_of wd ld (am2 PX.out PY.out prime_le h1 HT.out hv3 hk3 hd)]
      exact hg3
  · go_wp2_with fail
    refine (HLS.out _ HG.out HP1.out).mono ?_
    rintro e w3 ⟨g', k', ds, rfl, hb3, hg3, ld, wd, hk3, hv3⟩
    go_wp2_with fail
    go_ret
    refine ⟨g', rfl, below_next HB.out hb3, ?_⟩
    have h1 := HV.out
    rw [Nat.one_mul] at h1
    have hd := val_lt _ wd
    rw [ld] at hd
    rw [pwords_val] at hv3
    rw [← HZ.out, wordsOf_of wd ld (am1 PX.out PY.out prime_le h1 hv3 hk3 hd)]
    exact hg3

set_option maxHeartbeats 1000000 in
theorem same_any (xs : List Nat) (g1 g2 : Nat) (t1 t2 : TypeId) (f1 f2 : Nat × Nat) (w : World) (hlx : xs.length = 9) (hx : w.heap[g1]? = some (.cells (xs.map u64).toArray t1 f1)) (hy : w.heap[g2]? = some (.cells (xs.map u64).toArray t2 f2)) :
    Calls Try.prog 11 #[.slice (some ⟨g1, 0, none⟩) 9 9, .slice (some ⟨g2, 0, none⟩) 9 9] w fun e w' => e = .returned (.bool true) ∧ ∃ m, w' = w.drewN m := by
  have cx := Lib.hid (getD_cell hx)
  have cy := Lib.hid (getD_cell hy)
  have HL := Lib.hid hlx
  clear hx hy hlx
  go_enter Try.func11, Try.ntmps11
  go_wp2
  go_loopw [5] (fun i wr => ∃ q : Nat, q ≤ 9 ∧ i = .int .i64 q ∧ ∃ m, wr = w.drewN m) (fun i _ => (9 - intOf i).toNat)
  case atStart => exact ⟨0, by decide, rfl, 0, rfl⟩
  case round =>
    obtain ⟨q, hq, rfl, m, rfl⟩ := hrel
    by_cases hqL : q = 9
    · subst hqL
      clear hq
      go_wp2
      go_ret
      exact ⟨rfl, m, rfl⟩
    · have hj : q < 9 := by omega
      have c1 := cx.out q (by rw [HL.out]; exact hj)
      have c2 := cy.out q (by rw [HL.out]; exact hj)
      obtain ⟨x, hx⟩ : ∃ x, x = xs.getD q 0 := ⟨_, rfl⟩
      rw [← hx] at c1 c2
      clear hx
      go_wp2
      go_quiet (fail)
      go_wp2
      go_roundw
      case rel => exact ⟨q + 1, hj, by simp, m + nq, by simp⟩
      case measure => simp [intOf]; omega
end Go.Proofs.Ytnpeilpnpedmcaa
