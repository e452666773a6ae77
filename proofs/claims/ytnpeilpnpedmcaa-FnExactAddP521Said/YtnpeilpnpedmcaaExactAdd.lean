/-
  The law FnExactAddP521 returns true for every input, and each argument reads afterwards as it read before: the sum of two elements below the prime is the reference's sum modulo the prime. No conditions.
-/
import Derived.Test.YtnpeilpnpedmcaaAddWords
namespace Go.Proofs.Ytnpeilpnpedmcaa.ExactAdd
set_option linter.unusedSimpArgs false
set_option linter.unusedVariables false
open Go.RowKit Num
open Go.ChangeShapes Go.WideShapes Go.ChangeAt
set_option linter.unusedVariables false

theorem mod_words (v : Nat) : ∃ x0 x1 x2 x3 x4 x5 x6 x7 x8 : Nat, wordsOf 9 (v % prime) = [x0, x1, x2, x3, x4, x5, x6, x7, x8] ∧ Ws [x0, x1, x2, x3, x4, x5, x6, x7, x8] ∧ val [x0, x1, x2, x3, x4, x5, x6, x7, x8] = v % prime := by
  have h1 : v % prime < 18446744073709551616 ^ 9 := Nat.lt_trans (Nat.mod_lt _ (by decide +kernel)) (by decide +kernel)
  have hw := ws_wordsOf 9 (v % prime)
  have hv := val_wordsOf 9 (v % prime) h1
  obtain ⟨x0, x1, x2, x3, x4, x5, x6, x7, x8, e⟩ := len_all (length_wordsOf 9 (v % prime))
  rw [e] at hw hv
  exact ⟨x0, x1, x2, x3, x4, x5, x6, x7, x8, e, hw, hv⟩
theorem prime_pos : 0 < prime := by decide +kernel
theorem mod_self {l : List Nat} (hl : l.length = 9) (hw : Ws l) (v : Nat) (h : v = val l) : wordsOf 9 v = l := wordsOf_of hw hl h.symm
section
variable {ops : Array Oper} {i : Nat} {a : Act} {w : World} {x y z : Operand} {xs ys zs : List Nat} {g g2 : Nat} {t t2 : TypeId} {fr fr2 : Nat × Nat} {ts : Array TypeId}
theorem addw_w (hlx : xs.length = 9) (hly : ys.length = 9) (wx : Ws xs) (wy : Ws ys) (px : val xs < prime) (py : val ys < prime) (hz : wordsOf 9 ((val xs + val ys) % prime) = zs) (hg : Gd ops i a = some true) (hop : (ops[i]?).map (·.op) = some (.call { callee := .value (.func 12), args := #[x, y, z], argTypes := ts }))
    (hx : a.eval x = .slice (some ⟨g, 0, none⟩) 9 9) (hy : a.eval y = .slice (some ⟨g2, 0, none⟩) 9 9) (hp : (RV.words pwords).holds w (a.eval z)) (h1 : w.heap[g]? = some (.cells (xs.map u64).toArray t fr)) (h2 : w.heap[g2]? = some (.cells (ys.map u64).toArray t2 fr2)) : Does Try.prog ops (.words zs) i a w := by
  obtain ⟨g3, t3, f3, e3, h3⟩ := hp
  have lz : zs.length = 9 := by rw [← hz]; exact length_wordsOf _ _
  exact does_call hg hop Try.func12 rfl rfl (by simp only [List.map_toArray, List.map_cons, List.map_nil, hx, hy, e3]; rfl) ((addWords_any xs ys zs g g2 g3 t t2 t3 fr fr2 f3 w hlx hly wx wy px py hz h1 h2 h3).mono fun e w' ⟨g4, q1, q2, q3⟩ => ⟨_, q1, q2, g4, 22, (0, 0), by rw [lz], q3⟩)
theorem same_w (hlx : xs.length = 9) (hg : Gd ops i a = some true) (hop : (ops[i]?).map (·.op) = some (.call { callee := .value (.func 11), args := #[x, y], argTypes := ts }))
    (hx : a.eval x = .slice (some ⟨g, 0, none⟩) 9 9) (hp : (RV.words xs).holds w (a.eval y)) (h1 : w.heap[g]? = some (.cells (xs.map u64).toArray t fr)) : Does Try.prog ops (.is (.bool true)) i a w := by
  obtain ⟨g3, t3, f3, e3, h3⟩ := hp
  rw [hlx] at e3
  exact does_call hg hop Try.func11 rfl rfl (by simp only [List.map_toArray, List.map_cons, List.map_nil, hx, e3]) ((same_any xs g g3 t t3 fr f3 w hlx h1 h3).mono fun e w' ⟨q1, m, q2⟩ => ⟨_, q1, by rw [q2]; exact below_drewN (Below.refl _ _) m, rfl⟩)
end
set_option maxHeartbeats 1000000 in
theorem walk1 (xs ys : List Nat) (lx : xs.length = 9) (ly : ys.length = 9) (wx : Ws xs) (wy : Ws ys) (px : decide (val xs < prime) = true) (py : decide (val ys < prime) = false) (w : World) :
    Calls Try.prog 4 #[(.agg (xs.map u64).toArray), (.agg (ys.map u64).toArray)] w fun e w' => e = .returned (.bool true) ∧ Below w.heap.size w w' := by
  go_enter Try.func4, Try.ntmps4
  go_upto_region 1 with fail
  refine wp_region_vals (by kernel_rfl) (by kernel_rfl) [6, 7, 8, 9, 10, 11, 12, 13, 14, 15] [.is (.slice (some ⟨w.heap.size, 0, none⟩) 9 9), .words pwords, .is (.bool true), .is (.bool false), .is (.bool false), .is (.slice (some ⟨(w.heap.size + 1), 0, none⟩) 9 9), .words pwords, .is (.bool false), .is (.bool true), .is (.bool true)] (by kernel_rfl) (by decide) (by kernel_rfl) ?hs1 ?hq1
  case hs1 =>
    intro i hi a' w' hb hr hv
    match i, hi with
    | 0, _ => exact slice_w (gd_none rfl) rfl ((hr 2 (by decide)).trans rfl)
    | 1, _ => exact prime_w (gd_none rfl) rfl
    | 2, _ => exact less_w lx wx px (gd_none rfl) rfl (hv 0 rfl) (hv 1 rfl) (has_next hb (has_old (has_new rfl)))
    | 3, _ => exact does_not (gd_none rfl) rfl (hv 2 rfl) rfl
    | 4, _ => exact does_move (gd_none rfl) rfl (hv 3 rfl)
    | 5, _ => exact slice_w (gd_some rfl rfl (hv 4 rfl) rfl) rfl ((hr 3 (by decide)).trans rfl)
    | 6, _ => exact prime_w (gd_some rfl rfl (hv 4 rfl) rfl) rfl
    | 7, _ => exact less_w ly wy py (gd_some rfl rfl (hv 4 rfl) rfl) rfl (hv 5 rfl) (hv 6 rfl) (has_next hb (has_new (by simp)))
    | 8, _ => exact does_not (gd_some rfl rfl (hv 4 rfl) rfl) rfl (hv 7 rfl) rfl
    | 9, _ => exact does_pick (gd_none rfl) rfl (hv 4 rfl) (hv 8 rfl)
    | n + 10, h => exact absurd h (Nat.not_lt.2 (Nat.le_add_left _ _))
  intro a' w1 hsz hdf hbel1 hr hv
  obtain ⟨g1_1, t1_1, f1_1, e1, h1_1⟩ := hv 1 (by decide)
  obtain ⟨g1_6, t1_6, f1_6, e6, h1_6⟩ := hv 6 (by decide)
  have hput := puts_eta [(6, (.slice (some ⟨w.heap.size, 0, none⟩) 9 9)), (7, .slice (some ⟨g1_1, 0, none⟩) 9 9), (8, (.bool true)), (9, (.bool false)), (10, (.bool false)), (11, (.slice (some ⟨(w.heap.size + 1), 0, none⟩) 9 9)), (12, .slice (some ⟨g1_6, 0, none⟩) 9 9), (13, (.bool false)), (14, (.bool true)), (15, (.bool true))] hsz hdf (show List.Nodup [6, 7, 8, 9, 10, 11, 12, 13, 14, 15] by decide) (by kernel_rfl) hr (List.forall_mem_cons.2 ⟨hv 0 (by decide), List.forall_mem_cons.2 ⟨e1, List.forall_mem_cons.2 ⟨hv 2 (by decide), List.forall_mem_cons.2 ⟨hv 3 (by decide), List.forall_mem_cons.2 ⟨hv 4 (by decide), List.forall_mem_cons.2 ⟨hv 5 (by decide), List.forall_mem_cons.2 ⟨e6, List.forall_mem_cons.2 ⟨hv 7 (by decide), List.forall_mem_cons.2 ⟨hv 8 (by decide), List.forall_mem_cons.2 ⟨hv 9 (by decide), fun p hp => by cases hp⟩⟩⟩⟩⟩⟩⟩⟩⟩⟩)
  clear hr hv hsz hdf e1 h1_1 e6 h1_6
  subst hput
  simp only [puts, Act.put, List.foldl_cons, List.foldl_nil, List.setIfInBounds_toArray, List.set_cons_succ, List.set_cons_zero]
  go_wp2
  go_ret
  exact ⟨rfl, below_next (below_new (below_new (Below.refl _ _) _) _) hbel1⟩
set_option maxHeartbeats 1000000 in
theorem walk2 (xs ys : List Nat) (lx : xs.length = 9) (ly : ys.length = 9) (wx : Ws xs) (wy : Ws ys) (px : decide (val xs < prime) = false) (w : World) :
    Calls Try.prog 4 #[(.agg (xs.map u64).toArray), (.agg (ys.map u64).toArray)] w fun e w' => e = .returned (.bool true) ∧ Below w.heap.size w w' := by
  go_enter Try.func4, Try.ntmps4
  go_upto_region 1 with fail
  refine wp_region_vals (by kernel_rfl) (by kernel_rfl) [6, 7, 8, 9, 10, 11, 12, 13, 14, 15] [.is (.slice (some ⟨w.heap.size, 0, none⟩) 9 9), .words pwords, .is (.bool false), .is (.bool true), .is (.bool true), .is undef, .is undef, .is undef, .is undef, .is (.bool true)] (by kernel_rfl) (by decide) (by kernel_rfl) ?hs1 ?hq1
  case hs1 =>
    intro i hi a' w' hb hr hv
    match i, hi with
    | 0, _ => exact slice_w (gd_none rfl) rfl ((hr 2 (by decide)).trans rfl)
    | 1, _ => exact prime_w (gd_none rfl) rfl
    | 2, _ => exact less_w lx wx px (gd_none rfl) rfl (hv 0 rfl) (hv 1 rfl) (has_next hb (has_old (has_new rfl)))
    | 3, _ => exact does_not (gd_none rfl) rfl (hv 2 rfl) rfl
    | 4, _ => exact does_move (gd_none rfl) rfl (hv 3 rfl)
    | 5, _ => exact does_skip (gd_some rfl rfl (hv 4 rfl) rfl) rfl
    | 6, _ => exact does_skip (gd_some rfl rfl (hv 4 rfl) rfl) rfl
    | 7, _ => exact does_skip (gd_some rfl rfl (hv 4 rfl) rfl) rfl
    | 8, _ => exact does_skip (gd_some rfl rfl (hv 4 rfl) rfl) rfl
    | 9, _ => exact does_pick (gd_none rfl) rfl (hv 4 rfl) rfl
    | n + 10, h => exact absurd h (Nat.not_lt.2 (Nat.le_add_left _ _))
  intro a' w1 hsz hdf hbel1 hr hv
  obtain ⟨g1_1, t1_1, f1_1, e1, h1_1⟩ := hv 1 (by decide)
  have hput := puts_eta [(6, (.slice (some ⟨w.heap.size, 0, none⟩) 9 9)), (7, .slice (some ⟨g1_1, 0, none⟩) 9 9), (8, (.bool false)), (9, (.bool true)), (10, (.bool true)), (11, undef), (12, undef), (13, undef), (14, undef), (15, (.bool true))] hsz hdf (show List.Nodup [6, 7, 8, 9, 10, 11, 12, 13, 14, 15] by decide) (by kernel_rfl) hr (List.forall_mem_cons.2 ⟨hv 0 (by decide), List.forall_mem_cons.2 ⟨e1, List.forall_mem_cons.2 ⟨hv 2 (by decide), List.forall_mem_cons.2 ⟨hv 3 (by decide), List.forall_mem_cons.2 ⟨hv 4 (by decide), List.forall_mem_cons.2 ⟨hv 5 (by decide), List.forall_mem_cons.2 ⟨hv 6 (by decide), List.forall_mem_cons.2 ⟨hv 7 (by decide), List.forall_mem_cons.2 ⟨hv 8 (by decide), List.forall_mem_cons.2 ⟨hv 9 (by decide), fun p hp => by cases hp⟩⟩⟩⟩⟩⟩⟩⟩⟩⟩)
  clear hr hv hsz hdf e1 h1_1
  subst hput
  simp only [puts, Act.put, List.foldl_cons, List.foldl_nil, List.setIfInBounds_toArray, List.set_cons_succ, List.set_cons_zero]
  go_wp2
  go_ret
  exact ⟨rfl, below_next (below_new (below_new (Below.refl _ _) _) _) hbel1⟩
set_option maxHeartbeats 1000000 in
theorem walk0 (xs ys : List Nat) (lx : xs.length = 9) (ly : ys.length = 9) (wx : Ws xs) (wy : Ws ys) (px : decide (val xs < prime) = true) (py : decide (val ys < prime) = true) (w : World) :
    Calls Try.prog 4 #[(.agg (xs.map u64).toArray), (.agg (ys.map u64).toArray)] w fun e w' => e = .returned (.bool true) ∧ Below w.heap.size w w' := by
  go_enter Try.func4, Try.ntmps4
  go_upto_region 1 with fail
  refine wp_region_vals (by kernel_rfl) (by kernel_rfl) [6, 7, 8, 9, 10, 11, 12, 13, 14, 15] [.is (.slice (some ⟨w.heap.size, 0, none⟩) 9 9), .words pwords, .is (.bool true), .is (.bool false), .is (.bool false), .is (.slice (some ⟨(w.heap.size + 1), 0, none⟩) 9 9), .words pwords, .is (.bool true), .is (.bool false), .is (.bool false)] (by kernel_rfl) (by decide) (by kernel_rfl) ?hs1 ?hq1
  case hs1 =>
    intro i hi a' w' hb hr hv
    match i, hi with
    | 0, _ => exact slice_w (gd_none rfl) rfl ((hr 2 (by decide)).trans rfl)
    | 1, _ => exact prime_w (gd_none rfl) rfl
    | 2, _ => exact less_w lx wx px (gd_none rfl) rfl (hv 0 rfl) (hv 1 rfl) (has_next hb (has_old (has_new rfl)))
    | 3, _ => exact does_not (gd_none rfl) rfl (hv 2 rfl) rfl
    | 4, _ => exact does_move (gd_none rfl) rfl (hv 3 rfl)
    | 5, _ => exact slice_w (gd_some rfl rfl (hv 4 rfl) rfl) rfl ((hr 3 (by decide)).trans rfl)
    | 6, _ => exact prime_w (gd_some rfl rfl (hv 4 rfl) rfl) rfl
    | 7, _ => exact less_w ly wy py (gd_some rfl rfl (hv 4 rfl) rfl) rfl (hv 5 rfl) (hv 6 rfl) (has_next hb (has_new (by simp)))
    | 8, _ => exact does_not (gd_some rfl rfl (hv 4 rfl) rfl) rfl (hv 7 rfl) rfl
    | 9, _ => exact does_pick (gd_none rfl) rfl (hv 4 rfl) (hv 8 rfl)
    | n + 10, h => exact absurd h (Nat.not_lt.2 (Nat.le_add_left _ _))
  intro a' w1 hsz hdf hbel1 hr hv
  obtain ⟨g1_1, t1_1, f1_1, e1, h1_1⟩ := hv 1 (by decide)
  obtain ⟨g1_6, t1_6, f1_6, e6, h1_6⟩ := hv 6 (by decide)
  have hput := puts_eta [(6, (.slice (some ⟨w.heap.size, 0, none⟩) 9 9)), (7, .slice (some ⟨g1_1, 0, none⟩) 9 9), (8, (.bool true)), (9, (.bool false)), (10, (.bool false)), (11, (.slice (some ⟨(w.heap.size + 1), 0, none⟩) 9 9)), (12, .slice (some ⟨g1_6, 0, none⟩) 9 9), (13, (.bool true)), (14, (.bool false)), (15, (.bool false))] hsz hdf (show List.Nodup [6, 7, 8, 9, 10, 11, 12, 13, 14, 15] by decide) (by kernel_rfl) hr (List.forall_mem_cons.2 ⟨hv 0 (by decide), List.forall_mem_cons.2 ⟨e1, List.forall_mem_cons.2 ⟨hv 2 (by decide), List.forall_mem_cons.2 ⟨hv 3 (by decide), List.forall_mem_cons.2 ⟨hv 4 (by decide), List.forall_mem_cons.2 ⟨hv 5 (by decide), List.forall_mem_cons.2 ⟨e6, List.forall_mem_cons.2 ⟨hv 7 (by decide), List.forall_mem_cons.2 ⟨hv 8 (by decide), List.forall_mem_cons.2 ⟨hv 9 (by decide), fun p hp => by cases hp⟩⟩⟩⟩⟩⟩⟩⟩⟩⟩)
  clear hr hv hsz hdf e1 h1_1 e6 h1_6
  subst hput
  simp only [puts, Act.put, List.foldl_cons, List.foldl_nil, List.setIfInBounds_toArray, List.set_cons_succ, List.set_cons_zero]
  have HX : w1.heap[w.heap.size]? = some (.cells (xs.map u64).toArray 23 (0, 0)) := has_next hbel1 (has_old (has_new rfl))
  have HY : w1.heap[w.heap.size + 1]? = some (.cells (ys.map u64).toArray 23 (0, 0)) := has_next hbel1 (has_new (by simp))
  go_upto_region 3 with fail
  go_wp2_with (first | (refine wpList_load_row rfl 23 (.tmp 2) rfl w.heap.size rfl 23 _ (0, 0) _ HX Try.underlying23 rfl (info_len lx) ?_) | (refine wpList_load_row rfl 23 (.tmp 3) rfl (w.heap.size + 1) rfl 23 _ (0, 0) _ HY Try.underlying23 rfl (info_len ly) ?_))
  obtain ⟨zs, hzs⟩ : ∃ zs, wordsOf 9 ((val xs + val ys) % prime) = zs := ⟨_, rfl⟩
  have lz : zs.length = 9 := by rw [← hzs]; exact length_wordsOf _ _
  have wz : Ws zs := by rw [← hzs]; exact ws_wordsOf _ _
  have qx := of_decide_eq_true px
  have qy := of_decide_eq_true py
  have vz : val zs = (val xs + val ys) % prime := by rw [← hzs]; exact val_wordsOf 9 _ (Nat.lt_trans (Nat.mod_lt _ prime_pos) (by decide +kernel))
  have qz : val zs < prime := by rw [vz]; exact Nat.mod_lt _ prime_pos
  have hbb := below_next (below_new (below_new (Below.refl _ w) _) _) hbel1
  refine (add_words xs ys lx ly wx wy qx qy _).mono ?_
  rw [hzs]
  rintro e w2 ⟨rfl, hb2⟩
  replace HX := has_next hb2 HX
  replace HY := has_next hb2 HY
  replace hbb := below_next hbb hb2
  clear hbel1 hb2
  go_wp2_with (refine wpList_store_row rfl 23 (.tmp 5) (.tmp 18) rfl w2.heap.size _ rfl rfl 23 _ (has_new rfl) (info_len lz) (by simp [lz]) (all_u64 _) ?_)
  go_upto_region 4 with fail
  refine wp_region_vals (by kernel_rfl) (by kernel_rfl) [19, 20, 21, 22, 23, 24, 4] [.is (.slice (some ⟨w2.heap.size, 0, none⟩) 9 9), .is (.slice (some ⟨w.heap.size, 0, none⟩) 9 9), .is (.slice (some ⟨(w.heap.size + 1), 0, none⟩) 9 9), .words pwords, .words zs, .is (.bool true), .is (.bool true)] (by kernel_rfl) (by decide) (by kernel_rfl) ?hs4 ?hq4
  case hs4 =>
    intro i hi a' w' hb hr hv
    match i, hi with
    | 0, _ => exact slice_w (gd_none rfl) rfl ((hr 5 (by decide)).trans rfl)
    | 1, _ => exact slice_w (gd_none rfl) rfl ((hr 2 (by decide)).trans rfl)
    | 2, _ => exact slice_w (gd_none rfl) rfl ((hr 3 (by decide)).trans rfl)
    | 3, _ => exact prime_w (gd_none rfl) rfl
    | 4, _ => exact addw_w lx ly wx wy qx qy hzs (gd_none rfl) rfl (hv 1 rfl) (hv 2 rfl) (hv 3 rfl) (has_next hb (kept_store HX)) (has_next hb (kept_store HY))
    | 5, _ => exact same_w lz (gd_none rfl) rfl (hv 0 rfl) (hv 4 rfl) (has_next hb new_store)
    | 6, _ => exact does_assign (gd_none rfl) rfl (hv 5 rfl)
    | n + 7, h => exact absurd h (Nat.not_lt.2 (Nat.le_add_left _ _))
  intro a' w4 hsz hdf hbel4 hr hv
  obtain ⟨g4_3, t4_3, f4_3, e3, h4_3⟩ := hv 3 (by decide)
  obtain ⟨g4_4, t4_4, f4_4, e4, h4_4⟩ := hv 4 (by decide)
  have hput := puts_eta [(19, (.slice (some ⟨w2.heap.size, 0, none⟩) 9 9)), (20, (.slice (some ⟨w.heap.size, 0, none⟩) 9 9)), (21, (.slice (some ⟨(w.heap.size + 1), 0, none⟩) 9 9)), (22, .slice (some ⟨g4_3, 0, none⟩) 9 9), (23, .slice (some ⟨g4_4, 0, none⟩) 9 9), (24, (.bool true)), (4, (.bool true))] hsz hdf (show List.Nodup [19, 20, 21, 22, 23, 24, 4] by decide) (by kernel_rfl) hr (List.forall_mem_cons.2 ⟨hv 0 (by decide), List.forall_mem_cons.2 ⟨hv 1 (by decide), List.forall_mem_cons.2 ⟨hv 2 (by decide), List.forall_mem_cons.2 ⟨e3, List.forall_mem_cons.2 ⟨(e4.trans (by rw [lz])), List.forall_mem_cons.2 ⟨hv 5 (by decide), List.forall_mem_cons.2 ⟨hv 6 (by decide), fun p hp => by cases hp⟩⟩⟩⟩⟩⟩⟩)
  clear hr hv hsz hdf e3 h4_3 e4 h4_4
  subst hput
  simp only [puts, Act.put, List.foldl_cons, List.foldl_nil, List.setIfInBounds_toArray, List.set_cons_succ, List.set_cons_zero]
  go_wp2
  go_ret
  exact ⟨rfl, below_next (below_store hbb) hbel4⟩
theorem walk (a0 a1 a2 a3 a4 a5 a6 a7 a8 b0 b1 b2 b3 b4 b5 b6 b7 b8 : Nat) (ha : Ws [a0, a1, a2, a3, a4, a5, a6, a7, a8]) (hb : Ws [b0, b1, b2, b3, b4, b5, b6, b7, b8]) (w : World) :
    Calls Try.prog 4 #[.agg #[.int .u64 a0, .int .u64 a1, .int .u64 a2, .int .u64 a3, .int .u64 a4, .int .u64 a5, .int .u64 a6, .int .u64 a7, .int .u64 a8], .agg #[.int .u64 b0, .int .u64 b1, .int .u64 b2, .int .u64 b3, .int .u64 b4, .int .u64 b5, .int .u64 b6, .int .u64 b7, .int .u64 b8]] w fun e w' => e = .returned (.bool true) ∧ Below w.heap.size w w' := by
  by_cases h1 : val [a0, a1, a2, a3, a4, a5, a6, a7, a8] < prime
  · by_cases h2 : val [b0, b1, b2, b3, b4, b5, b6, b7, b8] < prime
    · exact walk0 [a0, a1, a2, a3, a4, a5, a6, a7, a8] [b0, b1, b2, b3, b4, b5, b6, b7, b8] rfl rfl ha hb (decide_eq_true h1) (decide_eq_true h2) w
    · exact walk1 [a0, a1, a2, a3, a4, a5, a6, a7, a8] [b0, b1, b2, b3, b4, b5, b6, b7, b8] rfl rfl ha hb (decide_eq_true h1) (decide_eq_false h2) w
  · exact walk2 [a0, a1, a2, a3, a4, a5, a6, a7, a8] [b0, b1, b2, b3, b4, b5, b6, b7, b8] rfl rfl ha hb (decide_eq_false h1) w

set_option maxRecDepth 100000 in
theorem lifted (os : Os) (started : os.Started) (H : Type) (enc : TypeId × Value → H) :
    ReturnsInHanded {} Try.checked os 4 .any (Rows.fnExactAddP521Spec.pre6 enc Try.prog Try.f4 Rows.fnExactAddP521Row.domain false) (Rows.fnExactAddP521Spec.post enc Try.prog Try.f4 false true false false) := by
  refine returnsInHanded_of_change (C := Try.checked) own started (by kernel_rfl) Try.func4
    (ChangeSpec.witness6 (enc := enc) (C := Try.checked) false ⟨#[], #[.agg #[.int .u64 0, .int .u64 0, .int .u64 0, .int .u64 0, .int .u64 0, .int .u64 0, .int .u64 0, .int .u64 0, .int .u64 0], .agg #[.int .u64 0, .int .u64 0, .int .u64 0, .int .u64 0, .int .u64 0, .int .u64 0, .int .u64 0, .int .u64 0, .int .u64 0]], []⟩ 8 (by kernel_rfl) (by kernel_rfl) (by kernel_rfl) (by kernel_rfl)) ?_
  intro W base args ds gs before hval0 hW hcnd _
  have hval : ∀ (j : Nat) t v, Try.f4.params[j]? = some t → args[j]? = some v → Value.okWide Try.prog W .any base t v := hval0
  have hW' := hW
  obtain ⟨p, q, hA0, hV, rfl, hfz, hnd⟩ := hW
  have hA : DataW.TrodAll enc Try.prog W 0 (fun _ => true) true Try.f4.params.toList args.toList ds p := hA0
  rw [Try.params4] at hA hval
  obtain ⟨v0, vs0, d0, ds0, p0, q0, hargs, rfl, rfl, h0, r0⟩ := trodAll_cons hA
  obtain ⟨v1, vs1, d1, ds1, p1, q1, rfl, rfl, rfl, h1, r1⟩ := trodAll_cons r0
  obtain ⟨rfl, rfl, rfl⟩ := trodAll_nil r1
  obtain rfl : args = #[v0, v1] := by cases args; simp_all
  obtain ⟨rfl, rfl⟩ := trodVars_none hV
  have k0 := h0
  have lt0 : ∀ x ∈ p0, x.block < W.heap.size := by obtain ⟨m, hm⟩ := k0; exact DataW.trod_lt m _ _ _ hm
  obtain ⟨x0, l0, w0, rfl⟩ := open_words Try.underlying23 Try.underlying22 cells_e cells_t (hval 0 23 v0 rfl rfl) h0
  obtain ⟨a0, a1, a2, a3, a4, a5, a6, a7, a8, rfl⟩ := len_all l0
  have k1 := h1
  have lt1 : ∀ x ∈ p1, x.block < W.heap.size := by obtain ⟨m, hm⟩ := k1; exact DataW.trod_lt m _ _ _ hm
  obtain ⟨x1, l1, w1, rfl⟩ := open_words Try.underlying23 Try.underlying22 cells_e cells_t (hval 1 23 v1 rfl rfl) h1
  obtain ⟨b0, b1, b2, b3, b4, b5, b6, b7, b8, rfl⟩ := len_all l1
  clear hA0 hval0
  refine (walk a0 a1 a2 a3 a4 a5 a6 a7 a8 b0 b1 b2 b3 b4 b5 b6 b7 b8 w0 w1 W).mono fun e W' ⟨he, bel⟩ => ?_
  subst he
  exact ⟨_, rfl, _, _, _, [], _, [], hW', trodAll_mk1 (shut_bool Try.underlying4 _), (trodAll_cons_mk (Below.trod laidOut (by kernel_rfl) (of_decide_eq_true (by kernel_rfl)) k0 bel lt0) (trodAll_cons_mk (Below.trod laidOut (by kernel_rfl) (of_decide_eq_true (by kernel_rfl)) k1 bel lt1) trodAll_mk0)), rfl, bel.frame _, fun h => by cases h⟩

theorem over : Rows.fnExactAddP521Row.holds Try.pinned (OpenSpec.ofChange Rows.fnExactAddP521Spec) :=
  OpenClaim.holds_of_wide 4 Try.f4 rfl rfl rfl rfl rfl rfl rfl ⟨rfl, rfl, rfl, rfl, rfl⟩ rfl rfl rfl rfl rfl (by kernel_rfl) Try.func4 (by kernel_rfl)
    (of_decide_eq_true (by kernel_rfl)) (by unfold Func.isWrapper; first | (rw [if_pos (by decide +kernel)]; kernel_rfl) | (rw [if_neg (by decide +kernel)]; exact ⟨rfl, rfl⟩))
    (fun os started H enc _ => lifted os started H enc)

end Go.Proofs.Ytnpeilpnpedmcaa.ExactAdd
namespace Go.Proofs.Ytnpeilpnpedmcaa
theorem fnExactAddP521Holds : Rows.FnExactAddP521Said := ExactAdd.over
#print axioms fnExactAddP521Holds
end Go.Proofs.Ytnpeilpnpedmcaa
