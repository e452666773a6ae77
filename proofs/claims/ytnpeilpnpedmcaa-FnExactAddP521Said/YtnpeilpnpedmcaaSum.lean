/-
  The reference: the sum and the difference of two numbers of as many words.
-/
import Derived.Test.YtnpeilpnpedmcaaLaw
import Derived.LoopTactic
namespace Go.Proofs.Ytnpeilpnpedmcaa
set_option linter.unusedSimpArgs false
set_option linter.unusedVariables false
open Go.RowKit Num

theorem setCell_row {w : World} {g j : Nat} {out : List Nat} {t : TypeId} {fr : Nat × Nat} (h : w.heap[g]? = some (.cells (out.map u64).toArray t fr)) (v : Nat) : (w.setCell ⟨g, j, none⟩ (.int .u64 v)).heap[g]? = some (.cells ((out.set j v).map u64).toArray t fr) := by
  simp [World.setCell, Array.getElem?_modify, h, List.map_set, u64]
theorem below_setCell {B : Nat} {w0 w : World} {g j : Nat} {v : Value} (h : Below B w0 w) (hg : B ≤ g) : Below B w0 (w.setCell ⟨g, j, none⟩ v) := h.setCell hg v
theorem int_one (k : Nat) : ((k : Int) == 1) = (k == 1) := by rw [Bool.eq_iff_iff]; simp; omega
theorem ws_getD {l : List Nat} (h : Ws l) (i : Nat) : l.getD i 0 < 18446744073709551616 := by
  rw [List.getD_eq_getElem?_getD]
  by_cases hi : i < l.length
  · rw [List.getElem?_eq_getElem hi]; exact h _ (List.getElem_mem hi)
  · rw [List.getElem?_eq_none (by omega)]; decide
theorem run_made (w : World) : (Instr.makeSlice 27 (.int .i64 9) (.int .i64 9)).run Try.prog w = .ok (.slice (some ⟨w.heap.size, 0, none⟩) 9 9) (w.alloc (.cells (([0, 0, 0, 0, 0, 0, 0, 0, 0] : List Nat).map u64).toArray 22)) := by
  obtain ⟨i, h1, h2, h3⟩ := info_of (P := Try.prog) (t := 22) (n := 1) (z := .int .u64 0) (by kernel_rfl)
  have hb : (Try.prog.info? 22).map (·.bytes) = some 8 := by kernel_rfl
  have hb' : i.bytes = 8 := by simpa [h1] using hb
  rw [run_makeSlice w 27 22 i (.int .u64 0) Try.underlying27 h1 h3 .i64 .i64 9 9 (by decide) (by decide) (by rw [h2]; decide) (by rw [hb']; decide) (by decide), h2]
  have hm : madeCells (Value.int .u64 0).cells (Int.toNat 9 * 1) = (([0, 0, 0, 0, 0, 0, 0, 0, 0] : List Nat).map u64).toArray := by kernel_rfl
  rw [hm]
  rfl
theorem val_snoc : ∀ (l : List Nat) (v : Nat), val (l ++ [v]) = val l + 18446744073709551616 ^ l.length * v
  | [], v => by simp [val]
  | x :: l, v => by
    have := val_snoc l v
    simp only [List.cons_append, val, this, List.length_cons, Nat.pow_succ]
    rw [Nat.mul_add, ← Nat.mul_assoc, Nat.mul_comm 18446744073709551616 (18446744073709551616 ^ l.length)]
    omega
theorem val_take {l : List Nat} {q : Nat} (h : q < l.length) : val (l.take (q + 1)) = val (l.take q) + 18446744073709551616 ^ q * l.getD q 0 := by
  rw [List.take_succ_eq_append_getElem h, val_snoc, List.length_take, Nat.min_eq_left (Nat.le_of_lt h), List.getD_eq_getElem?_getD, List.getElem?_eq_getElem h]; rfl
theorem val_take_set {l : List Nat} {q v : Nat} (h : q < l.length) : val ((l.set q v).take (q + 1)) = val (l.take q) + 18446744073709551616 ^ q * v := by
  rw [val_take (by simpa using h), List.take_set_of_le (Nat.le_refl _)]; simp [List.getD_eq_getElem?_getD, h]
theorem ws_set {l : List Nat} {q v : Nat} (h : Ws l) (hv : v < 18446744073709551616) : Ws (l.set q v) := fun x hx => by
  rcases List.mem_or_eq_of_mem_set hx with h1 | h1
  · exact h x h1
  · rw [h1]; exact hv
theorem psum {a k q u v x y c w : Nat} {A X Y : Nat} (h : A + k * q = X + Y) (hs : v + c * w = x + k + y) : A + q * v + c * (q * w) = X + q * x + (Y + q * y) := by
  have : q * v + c * (q * w) = q * (v + c * w) := by rw [Nat.mul_add, Nat.mul_left_comm]
  rw [hs, Nat.mul_add, Nat.mul_add, Nat.mul_comm q k] at this
  omega
theorem pdif {a k q u v x y c w : Nat} {A X Y : Nat} (h : A + Y = X + k * q) (hs : v + k + y = x + c * w) : A + q * v + (Y + q * y) = X + q * x + c * (q * w) := by
  have : q * (v + k + y) = q * x + c * (q * w) := by rw [hs, Nat.mul_add, Nat.mul_left_comm]
  rw [Nat.mul_add, Nat.mul_add, Nat.mul_comm q k] at this
  omega
/-- What the loop keeps: the words so far, and what is carried or owed. -/
def PInv (w : World) (xs ys : List Nat) (c i : Value) (wr : World) : Prop := ∃ (q k : Nat) (out : List Nat), q ≤ 9 ∧ k ≤ 1 ∧ c = .int .u64 k ∧ i = .int .i64 q ∧ out.length = 9 ∧ Ws out ∧
  wr.heap[w.heap.size]? = some (.cells (out.map u64).toArray 22 (0, 0)) ∧ Below w.heap.size w wr ∧ val (out.take q) + k * 18446744073709551616 ^ q = val (xs.take q) + val (ys.take q)
theorem p_step {w wr : World} {xs ys out : List Nat} {q k x y : Nat} (hj : q < 9) (lx : xs.length = 9) (ly : ys.length = 9) (lo : out.length = 9) (wo : Ws out) (hg : wr.heap[w.heap.size]? = some (.cells (out.map u64).toArray 22 (0, 0))) (hb : Below w.heap.size w wr)
    (hv : val (out.take q) + k * 18446744073709551616 ^ q = val (xs.take q) + val (ys.take q)) (hx : x = xs.getD q 0) (hy : y = ys.getD q 0) (v c : Nat) (hc : c ≤ 1) (hvb : v < 18446744073709551616) (hs : v + c * 18446744073709551616 = x + k + y) {V D : Int} (hV : V = (v : Int)) (hD : D = (c : Int)) :
    PInv w xs ys (.int .u64 D) (.int .i64 ((q : Int) + 1)) (wr.setCell ⟨w.heap.size, q, none⟩ (.int .u64 V)) := by
  subst hV hD
  refine ⟨q + 1, c, out.set q v, hj, hc, rfl, by simp, by simpa using lo, ws_set wo hvb, setCell_row hg v, below_setCell hb (Nat.le_refl _), ?_⟩
  rw [val_take_set (by omega), val_take (by omega), val_take (by omega), ← hx, ← hy, Nat.pow_succ]
  exact psum (a := 0) (u := 0) hv hs
set_option maxHeartbeats 1000000 in
theorem plus_any (xs ys : List Nat) (g1 g2 : Nat) (t1 t2 : TypeId) (f1 f2 : Nat × Nat) (w : World) (hlx : xs.length = 9) (hly : ys.length = 9) (hwx : Ws xs) (hwy : Ws ys)
    (hx : w.heap[g1]? = some (.cells (xs.map u64).toArray t1 f1)) (hy : w.heap[g2]? = some (.cells (ys.map u64).toArray t2 f2)) :
    Calls Try.prog 16 #[.slice (some ⟨g1, 0, none⟩) 9 9, .slice (some ⟨g2, 0, none⟩) 9 9] w fun e w' => ∃ (g k : Nat) (zs : List Nat), e = .returned (.tuple #[.slice (some ⟨g, 0, none⟩) 9 9, .bool (k == 1)]) ∧ Below w.heap.size w w' ∧ w'.heap[g]? = some (.cells (zs.map u64).toArray 22 (0, 0)) ∧ zs.length = 9 ∧ Ws zs ∧ k ≤ 1 ∧ val zs + k * 18446744073709551616 ^ 9 = val xs + val ys := by
  have HX := Lib.hid hx
  have HY := Lib.hid hy
  have HL := Lib.hid hlx
  have HR := Lib.hid hly
  replace hwx := Lib.hid hwx
  replace hwy := Lib.hid hwy
  clear hx hy hlx hly
  go_enter Try.func16, Try.ntmps16
  go_wp2
  rw [run_made]
  go_wp2
  go_loopw [7, 8] (fun c i wr => PInv w xs ys c i wr) (fun _ i _ => (9 - intOf i).toNat)
  case atStart => exact ⟨0, 0, [0, 0, 0, 0, 0, 0, 0, 0, 0], by decide, by decide, rfl, rfl, rfl, by intro x hx; simp at hx; omega, has_new rfl, below_new (Below.refl _ _) _, by simp [val]⟩
  case round =>
    obtain ⟨q, k, out, hq, hk, rfl, rfl, lo, wo, hg, hb, hv⟩ := hrel
    by_cases hqL : q = 9
    · subst hqL
      have HG := Lib.hid hg
      have HB := Lib.hid hb
      have HV := Lib.hid hv
      have HO := Lib.hid wo
      clear hg hb hv wo
      go_wp2
      go_ret2
      refine ⟨w.heap.size, k, out, ?_, HB.out, HG.out, lo, HO.out, hk, ?_⟩
      · show Ending.returned (.tuple #[.slice (some ⟨w.heap.size, 0, none⟩) 9 9, .bool ((k : Int) == 1)]) = _
        rw [int_one k]
      · have hl1 := HL.out
        have hr1 := HR.out
        have := HV.out
        rwa [List.take_of_length_le (by omega), List.take_of_length_le (by omega), List.take_of_length_le (by omega)] at this
    · have hj : q < 9 := by omega
      have c1 := getD_cell (has_next hb HX.out) q (by rw [HL.out]; exact hj)
      have c2 := getD_cell (has_next hb HY.out) q (by rw [HR.out]; exact hj)
      have c3 := getD_cell hg q (by rw [lo]; exact hj)
      obtain ⟨x, hx⟩ : ∃ x, x = xs.getD q 0 := ⟨_, rfl⟩
      obtain ⟨y, hy⟩ : ∃ y, y = ys.getD q 0 := ⟨_, rfl⟩
      obtain ⟨o, ho⟩ : ∃ y, y = out.getD q 0 := ⟨_, rfl⟩
      rw [← hx] at c1; rw [← hy] at c2; rw [← ho] at c3
      have hxb : x < 18446744073709551616 := by rw [hx]; exact ws_getD hwx.out q
      have hyb : y < 18446744073709551616 := by rw [hy]; exact ws_getD hwy.out q
      have n2 : g2 < w.heap.size := size_of HY.out
      have c4 : ∀ v, (wr.setCell ⟨w.heap.size, q, none⟩ v).cell? ⟨g2, q, none⟩ = some (.int .u64 (y : Int)) := fun v => by rw [World.cell?_setCell_other _ _ _ _ (fun e => by cases e; exact Nat.lt_irrefl _ n2)]; exact c2
      have fz : wr.frozen? ⟨w.heap.size, q, none⟩ = false := by simp [World.frozen?, hg]
      have HG := Lib.hid hg
      have HB := Lib.hid hb
      have HV := Lib.hid hv
      have HO := Lib.hid wo
      have Hx := Lib.hid hx
      have Hy := Lib.hid hy
      clear hg hb hv wo hx hy ho
      go_wp2
      all_goals
        refine ⟨?_, by simp [intOf]; omega⟩
        (try simp only [IntKind.wrap_u64] at *)
        first | exact p_step hj HL.out HR.out lo HO.out HG.out HB.out HV.out Hx.out Hy.out ((x + k + y) % 18446744073709551616) 1 (by decide) (Nat.mod_lt _ (by decide)) (by omega) (by omega) (by omega) | exact p_step hj HL.out HR.out lo HO.out HG.out HB.out HV.out Hx.out Hy.out ((x + k + y) % 18446744073709551616) 0 (by decide) (Nat.mod_lt _ (by decide)) (by omega) (by omega) (by omega)
/-- What the loop keeps: the words so far, and what is carried or owed. -/
def MInv (w : World) (xs ys : List Nat) (c i : Value) (wr : World) : Prop := ∃ (q k : Nat) (out : List Nat), q ≤ 9 ∧ k ≤ 1 ∧ c = .int .u64 k ∧ i = .int .i64 q ∧ out.length = 9 ∧ Ws out ∧
  wr.heap[w.heap.size]? = some (.cells (out.map u64).toArray 22 (0, 0)) ∧ Below w.heap.size w wr ∧ val (out.take q) + val (ys.take q) = val (xs.take q) + k * 18446744073709551616 ^ q
theorem m_step {w wr : World} {xs ys out : List Nat} {q k x y : Nat} (hj : q < 9) (lx : xs.length = 9) (ly : ys.length = 9) (lo : out.length = 9) (wo : Ws out) (hg : wr.heap[w.heap.size]? = some (.cells (out.map u64).toArray 22 (0, 0))) (hb : Below w.heap.size w wr)
    (hv : val (out.take q) + val (ys.take q) = val (xs.take q) + k * 18446744073709551616 ^ q) (hx : x = xs.getD q 0) (hy : y = ys.getD q 0) (v c : Nat) (hc : c ≤ 1) (hvb : v < 18446744073709551616) (hs : v + k + y = x + c * 18446744073709551616) {V D : Int} (hV : V = (v : Int)) (hD : D = (c : Int)) :
    MInv w xs ys (.int .u64 D) (.int .i64 ((q : Int) + 1)) (wr.setCell ⟨w.heap.size, q, none⟩ (.int .u64 V)) := by
  subst hV hD
  refine ⟨q + 1, c, out.set q v, hj, hc, rfl, by simp, by simpa using lo, ws_set wo hvb, setCell_row hg v, below_setCell hb (Nat.le_refl _), ?_⟩
  rw [val_take_set (by omega), val_take (by omega), val_take (by omega), ← hx, ← hy, Nat.pow_succ]
  exact pdif (a := 0) (u := 0) hv hs
set_option maxHeartbeats 1000000 in
theorem lessen_any (xs ys : List Nat) (g1 g2 : Nat) (t1 t2 : TypeId) (f1 f2 : Nat × Nat) (w : World) (hlx : xs.length = 9) (hly : ys.length = 9) (hwx : Ws xs) (hwy : Ws ys)
    (hx : w.heap[g1]? = some (.cells (xs.map u64).toArray t1 f1)) (hy : w.heap[g2]? = some (.cells (ys.map u64).toArray t2 f2)) :
    Calls Try.prog 17 #[.slice (some ⟨g1, 0, none⟩) 9 9, .slice (some ⟨g2, 0, none⟩) 9 9] w fun e w' => ∃ (g k : Nat) (zs : List Nat), e = .returned (.tuple #[.slice (some ⟨g, 0, none⟩) 9 9, .bool (k == 1)]) ∧ Below w.heap.size w w' ∧ w'.heap[g]? = some (.cells (zs.map u64).toArray 22 (0, 0)) ∧ zs.length = 9 ∧ Ws zs ∧ k ≤ 1 ∧ val zs + val ys = val xs + k * 18446744073709551616 ^ 9 := by
  have HX := Lib.hid hx
  have HY := Lib.hid hy
  have HL := Lib.hid hlx
  have HR := Lib.hid hly
  replace hwx := Lib.hid hwx
  replace hwy := Lib.hid hwy
  clear hx hy hlx hly
  go_enter Try.func17, Try.ntmps17
  go_wp2
  rw [run_made]
  go_wp2
  go_loopw [7, 8] (fun c i wr => MInv w xs ys c i wr) (fun _ i _ => (9 - intOf i).toNat)
  case atStart => exact ⟨0, 0, [0, 0, 0, 0, 0, 0, 0, 0, 0], by decide, by decide, rfl, rfl, rfl, by intro x hx; simp at hx; omega, has_new rfl, below_new (Below.refl _ _) _, by simp [val]⟩
  case round =>
    obtain ⟨q, k, out, hq, hk, rfl, rfl, lo, wo, hg, hb, hv⟩ := hrel
    by_cases hqL : q = 9
    · subst hqL
      have HG := Lib.hid hg
      have HB := Lib.hid hb
      have HV := Lib.hid hv
      have HO := Lib.hid wo
      clear hg hb hv wo
      go_wp2
      go_ret2
      refine ⟨w.heap.size, k, out, ?_, HB.out, HG.out, lo, HO.out, hk, ?_⟩
      · show Ending.returned (.tuple #[.slice (some ⟨w.heap.size, 0, none⟩) 9 9, .bool ((k : Int) == 1)]) = _
        rw [int_one k]
      · have hl1 := HL.out
        have hr1 := HR.out
        have := HV.out
        rwa [List.take_of_length_le (by omega), List.take_of_length_le (by omega), List.take_of_length_le (by omega)] at this
    · have hj : q < 9 := by omega
      have c1 := getD_cell (has_next hb HX.out) q (by rw [HL.out]; exact hj)
      have c2 := getD_cell (has_next hb HY.out) q (by rw [HR.out]; exact hj)
      have c3 := getD_cell hg q (by rw [lo]; exact hj)
      obtain ⟨x, hx⟩ : ∃ x, x = xs.getD q 0 := ⟨_, rfl⟩
      obtain ⟨y, hy⟩ : ∃ y, y = ys.getD q 0 := ⟨_, rfl⟩
      obtain ⟨o, ho⟩ : ∃ y, y = out.getD q 0 := ⟨_, rfl⟩
      rw [← hx] at c1; rw [← hy] at c2; rw [← ho] at c3
      have hxb : x < 18446744073709551616 := by rw [hx]; exact ws_getD hwx.out q
      have hyb : y < 18446744073709551616 := by rw [hy]; exact ws_getD hwy.out q
      have n2 : g2 < w.heap.size := size_of HY.out
      have c4 : ∀ v, (wr.setCell ⟨w.heap.size, q, none⟩ v).cell? ⟨g2, q, none⟩ = some (.int .u64 (y : Int)) := fun v => by rw [World.cell?_setCell_other _ _ _ _ (fun e => by cases e; exact Nat.lt_irrefl _ n2)]; exact c2
      have fz : wr.frozen? ⟨w.heap.size, q, none⟩ = false := by simp [World.frozen?, hg]
      have HG := Lib.hid hg
      have HB := Lib.hid hb
      have HV := Lib.hid hv
      have HO := Lib.hid wo
      have Hx := Lib.hid hx
      have Hy := Lib.hid hy
      clear hg hb hv wo hx hy ho
      go_wp2
      all_goals
        refine ⟨?_, by simp [intOf]; omega⟩
        (try simp only [IntKind.wrap_u64] at *)
        first | exact m_step hj HL.out HR.out lo HO.out HG.out HB.out HV.out Hx.out Hy.out ((x + 18446744073709551616 + 18446744073709551616 - k - y) % 18446744073709551616) 1 (by decide) (Nat.mod_lt _ (by decide)) (by omega) (by omega) (by omega) | exact m_step hj HL.out HR.out lo HO.out HG.out HB.out HV.out Hx.out Hy.out ((x + 18446744073709551616 + 18446744073709551616 - k - y) % 18446744073709551616) 0 (by decide) (Nat.mod_lt _ (by decide)) (by omega) (by omega) (by omega)
end Go.Proofs.Ytnpeilpnpedmcaa
