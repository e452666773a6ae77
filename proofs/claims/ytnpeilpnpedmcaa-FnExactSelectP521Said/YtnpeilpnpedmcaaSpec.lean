/-
  The reference: which of two numbers is less, the prime's words, a byte of a number.
-/
import Derived.Test.YtnpeilpnpedmcaaWrap
import Derived.LoopTactic
import Derived.Deep.QuietTactic
import Derived.BigQuiet
namespace Go.Proofs.Ytnpeilpnpedmcaa
open Go.RowKit Num

theorem getD_cell {w : World} {g : Nat} {xs : List Nat} {t : TypeId} {fr : Nat × Nat} (h : w.heap[g]? = some (.cells (xs.map u64).toArray t fr)) (j : Nat) (hj : j < xs.length) : w.cell? ⟨g, j, none⟩ = some (.int .u64 ((xs.getD j 0 : Nat) : Int)) := by
  rw [cell_of_row w g j _ t fr h]
  simp [u64, List.getD_eq_getElem?_getD, hj]
theorem ret_bool {x y : Bool} (h : x = y) : Ending.returned (.bool x) = .returned (.bool y) := by rw [h]
theorem drop_step {xs ys : List Nat} {j : Nat} (h1 : j < xs.length) (h2 : j < ys.length) (he : xs.getD j 0 = ys.getD j 0) (hd : xs.drop (j + 1) = ys.drop (j + 1)) : xs.drop j = ys.drop j := by
  rw [List.drop_eq_getElem_cons h1, List.drop_eq_getElem_cons h2, hd]
  simp only [List.getD_eq_getElem?_getD, List.getElem?_eq_getElem h1, List.getElem?_eq_getElem h2, Option.getD_some] at he
  rw [he]
theorem val_less : ∀ (j : Nat) (xs ys : List Nat), j < xs.length → j < ys.length → Ws xs → Ws ys → xs.getD j 0 ≠ ys.getD j 0 → xs.drop (j + 1) = ys.drop (j + 1) → (val xs < val ys ↔ xs.getD j 0 < ys.getD j 0)
  | 0, x :: xs, y :: ys, _, _, wx, wy, hne, hd => by
    simp only [List.drop_succ_cons, List.drop_zero] at hd
    subst hd
    simp only [val, List.getD_cons_zero] at hne ⊢
    omega
  | j + 1, x :: xs, y :: ys, h1, h2, wx, wy, hne, hd => by
    simp only [List.drop_succ_cons, List.getD_cons_succ] at hd hne ⊢
    have ih := val_less j xs ys (by simpa using h1) (by simpa using h2) wx.tail wy.tail hne hd
    rw [← ih]
    have hx := wx.head
    have hy := wy.head
    have hv : val xs ≠ val ys := fun e => by
      have : ¬ xs.getD j 0 < ys.getD j 0 := fun h => by have := ih.2 h; omega
      have ih' := val_less j ys xs (by simpa using h2) (by simpa using h1) wy.tail wx.tail (Ne.symm hne) hd.symm
      have : ¬ ys.getD j 0 < xs.getD j 0 := fun h => by have := ih'.2 h; omega
      omega
    simp only [val]
    omega

/-- LessWords tells whether the first number is below the second. -/
theorem less_any (xs ys : List Nat) (g1 g2 n : Nat) (t1 t2 : TypeId) (f1 f2 : Nat × Nat) (w : World) (hn : n ≤ 100) (hlx : xs.length = n) (hly : ys.length = n) (hwx : Ws xs) (hwy : Ws ys)
    (hx : w.heap[g1]? = some (.cells (xs.map u64).toArray t1 f1)) (hy : w.heap[g2]? = some (.cells (ys.map u64).toArray t2 f2)) :
    Calls Try.prog 8 #[.slice (some ⟨g1, 0, none⟩) n n, .slice (some ⟨g2, 0, none⟩) n n] w fun e w' => e = .returned (.bool (decide (val xs < val ys))) ∧ ∃ m, w' = w.drewN m := by
  have cx := Lib.hid (getD_cell hx)
  have cy := Lib.hid (getD_cell hy)
  have HL := Lib.hid hlx
  have HR := Lib.hid hly
  replace hwx := Lib.hid hwx
  replace hwy := Lib.hid hwy
  clear hx hy hlx hly
  go_enter Try.func8, Try.ntmps8
  go_wp2
  go_loopw [5] (fun i wr => ∃ q : Int, -1 ≤ q ∧ q < n ∧ i = .int .i64 q ∧ Hid (xs.drop (q + 1).toNat = ys.drop (q + 1).toNat) ∧ ∃ m, wr = w.drewN m) (fun i _ => (intOf i + 1).toNat)
  case atStart => exact ⟨(n : Int) - 1, by omega, by omega, rfl, by unfold Hid; rw [List.drop_of_length_le (by rw [HL.out]; omega), List.drop_of_length_le (by rw [HR.out]; omega)], 0, rfl⟩
  case round =>
    obtain ⟨q, hq0, hq1, rfl, hd, m, rfl⟩ := hrel
    by_cases h0 : q = -1
    · subst h0
      clear hq0 hq1
      go_wp2
      go_ret
      refine ⟨?_, m, rfl⟩
      have he : xs = ys := by simpa using hd.out
      rw [he]
      simp
    · obtain ⟨j, rfl⟩ : ∃ j : Nat, q = (j : Int) := ⟨q.toNat, by omega⟩
      clear h0 hq0
      have hj : j < n := by omega
      have c1 := cx.out j (by rw [HL.out]; omega)
      have c2 := cy.out j (by rw [HR.out]; omega)
      obtain ⟨x, hx⟩ : ∃ x, x = xs.getD j 0 := ⟨_, rfl⟩
      obtain ⟨y, hy⟩ : ∃ y, y = ys.getD j 0 := ⟨_, rfl⟩
      rw [← hx] at c1
      rw [← hy] at c2
      have Hx := Lib.hid hx
      have Hy := Lib.hid hy
      have Hj := Lib.hid hj
      clear hx hy
      by_cases hxy : x = y
      · have b1 : ((x : Int) != (y : Int)) = false := by simp [hxy]
        have Hxy := Lib.hid hxy
        clear hxy
        go_wp2
        go_quiet (fail)
        go_wp2
        go_roundw
        case rel =>
          refine ⟨(j : Int) - 1, by omega, by omega, by go_num, ?_, m + nq, by simp⟩
          have e1 : ((j : Int) - 1 + 1).toNat = j := by omega
          have e2 : ((j : Int) + 1).toNat = j + 1 := by omega
          have hd' := hd.out
          rw [e2] at hd'
          unfold Hid
          rw [e1]
          exact drop_step (by rw [HL.out]; exact Hj.out) (by rw [HR.out]; exact Hj.out) (Hx.out.symm.trans (Hxy.out.trans Hy.out)) hd'
        case measure => simp [intOf]
      · have b1 : ((x : Int) != (y : Int)) = true := by simp; omega
        have Hxy := Lib.hid hxy
        clear hxy
        go_wp2
        go_quiet (fail)
        go_wp2
        go_quiet (fail)
        go_wp2
        go_ret
        refine ⟨?_, _, by simp only [World.drewN_drewN]; rfl⟩
        have e2 : ((j : Int) + 1).toNat = j + 1 := by omega
        have hd' := hd.out
        rw [e2] at hd'
        have := val_less j xs ys (by rw [HL.out]; exact Hj.out) (by rw [HR.out]; exact Hj.out) hwx.out hwy.out (by rw [← Hx.out, ← Hy.out]; exact Hxy.out) hd'
        rw [← Hx.out, ← Hy.out] at this
        exact ret_bool (by rw [decide_eq_decide]; exact this.symm)

theorem drewN_below (w : World) (m : Nat) : Below w.heap.size w (w.drewN m) := by
  induction m with
  | zero => exact Below.refl _ _
  | succ m ih => exact ih.drew
theorem drewN_size (w : World) (m : Nat) : (w.drewN m).heap = w.heap := by
  induction m with
  | zero => rfl
  | succ m ih => exact ih

/-- The prime's words, new. -/
theorem prime_any (w : World) : Calls Try.prog 9 #[] w fun e w' => e = .returned (.slice (some ⟨w.heap.size, 0, none⟩) 9 9) ∧ w' = w.alloc (.cells (pwords.map u64).toArray 22) := by
  go_enter Try.func9, Try.ntmps9
  go_wp2
  go_ret
  exact ⟨rfl, rfl⟩
end Go.Proofs.Ytnpeilpnpedmcaa
