/-
  The law FnAddTurnedP521 returns true for every input, and each argument reads afterwards as it read before: a + b is b + a, it is below the prime, and (a + b) - b is a, for elements below the prime. No conditions.
-/
import Derived.Test.YtnpeilpnpedmcaaLaw
namespace Go.Proofs.Ytnpeilpnpedmcaa.AddTurned
set_option linter.unusedSimpArgs false
set_option linter.unusedVariables false
open Go.RowKit Num
open Go.ChangeShapes Go.WideShapes Go.ChangeAt
set_option linter.unusedVariables false

theorem mod_words (v : Nat) : ∃ x0 x1 x2 x3 x4 x5 x6 x7 x8 : Nat, wordsOf 9 (v % prime) = [x0, x1, x2, x3, x4, x5, x6, x7, x8] ∧ Ws [x0, x1, x2, x3, x4, x5, x6, x7, x8] ∧ val [x0, x1, x2, x3, x4, x5, x6, x7, x8] = v % prime := by
  have h1 : v % prime < 18446744073709551616 ^ 9 := Nat.lt_trans (Nat.mod_lt _ (by decide +kernel)) (by decide +kernel)
  have hw := ws_wordsOf 9 (v % prime)
  have hv := val_wordsOf 9 (v % prime) h1
  obtain ⟨x0, x1, x2, x3, x4, x5, x6, x7, x8, e⟩ := len_all (length_wordsOf 9 (v % prime))
  rw [e] at hw hv
  exact ⟨x0, x1, x2, x3, x4, x5, x6, x7, x8, e, hw, hv⟩
theorem prime_pos : 0 < prime := by decide +kernel
theorem mod_self {l : List Nat} (hl : l.length = 9) (hw : Ws l) (v : Nat) (h : v = val l) : wordsOf 9 v = l := wordsOf_of hw hl h.symm
theorem add_sub {p x y z : Nat} (hx : x < p) (hy : y < p) (hz : z = (x + y) % p) : (z + (p - y)) % p = x := by
  subst hz
  rw [Nat.mod_add_mod, show x + y + (p - y) = x + p by omega, Nat.add_mod_right, Nat.mod_eq_of_lt hx]
set_option maxHeartbeats 1000000 in
theorem walk1 (xs ys : List Nat) (lx : xs.length = 9) (ly : ys.length = 9) (wx : Ws xs) (wy : Ws ys) (px : decide (val xs < prime) = true) (py : decide (val ys < prime) = false) (w : World) :
    Calls Try.prog 5 #[(.agg (xs.map u64).toArray), (.agg (ys.map u64).toArray)] w fun e w' => e = .returned (.bool true) ∧ Below w.heap.size w w' := by
  go_enter Try.func5, Try.ntmps5
  go_upto_region 1 with fail
  refine wp_region_vals (by kernel_rfl) (by kernel_rfl) [6, 7, 8, 9, 10, 11, 12, 13, 14, 15] [.is (.slice (some ⟨w.heap.size, 0, none⟩) 9 9), .words pwords, .is (.bool true), .is (.bool false), .is (.bool false), .is (.slice (some ⟨(w.heap.size + 1), 0, none⟩) 9 9), .words pwords, .is (.bool false), .is (.bool true), .is (.bool true)] (by kernel_rfl) (by decide) (by kernel_rfl) ?hs1 ?hq1
  case hs1 =>
    intro i hi a' w' hb hr hv
    match i, hi with
    | 0, _ => exact slice_w (gd_none rfl) rfl ((hr 2 (by decide)).trans rfl)
    | 1, _ => exact prime_w (gd_none rfl) rfl
    | 2, _ => exact less_w lx wx px (gd_none rfl) rfl (hv 0 rfl) (hv 1 rfl) (has_next hb (has_old (has_new rfl)))
    | 3, _ => exact does_not (gd_none rfl) rfl (hv 2 rfl) rfl
    | 4, _ => exact does_move (gd_none rfl) rfl (hv 3 rfl)
    | 5, _ => exact slice_w (gd_some rfl rfl (hv 4 rfl) rfl) rfl ((hr 3 (by decide)).trans rfl)
    | 6, _ => exact prime_w (gd_some rfl rfl (hv 4 rfl) rfl) rfl
    | 7, _ => exact less_w ly wy py (gd_some rfl rfl (hv 4 rfl) rfl) rfl (hv 5 rfl) (hv 6 rfl) (has_next hb (has_new (by simp)))
    | 8, _ => exact does_not (gd_some rfl rfl (hv 4 rfl) rfl) rfl (hv 7 rfl) rfl
    | 9, _ => exact does_pick (gd_none rfl) rfl (hv 4 rfl) (hv 8 rfl)
    | n + 10, h => exact absurd h (Nat.not_lt.2 (Nat.le_add_left _ _))
  intro a' w1 hsz hdf hbel1 hr hv
  obtain ⟨g1_1, t1_1, f1_1, e1, h1_1⟩ := hv 1 (by decide)
  obtain ⟨g1_6, t1_6, f1_6, e6, h1_6⟩ := hv 6 (by decide)
  have hput := puts_eta [(6, (.slice (some ⟨w.heap.size, 0, none⟩) 9 9)), (7, .slice (some ⟨g1_1, 0, none⟩) 9 9), (8, (.bool true)), (9, (.bool false)), (10, (.bool false)), (11, (.slice (some ⟨(w.heap.size + 1), 0, none⟩) 9 9)), (12, .slice (some ⟨g1_6, 0, none⟩) 9 9), (13, (.bool false)), (14, (.bool true)), (15, (.bool true))] hsz hdf (show List.Nodup [6, 7, 8, 9, 10, 11, 12, 13, 14, 15] by decide) (by kernel_rfl) hr (List.forall_mem_cons.2 ⟨hv 0 (by decide), List.forall_mem_cons.2 ⟨e1, List.forall_mem_cons.2 ⟨hv 2 (by decide), List.forall_mem_cons.2 ⟨hv 3 (by decide), List.forall_mem_cons.2 ⟨hv 4 (by decide), List.forall_mem_cons.2 ⟨hv 5 (by decide), List.forall_mem_cons.2 ⟨e6, List.forall_mem_cons.2 ⟨hv 7 (by decide), List.forall_mem_cons.2 ⟨hv 8 (by decide), List.forall_mem_cons.2 ⟨hv 9 (by decide), fun p hp => by cases hp⟩⟩⟩⟩⟩⟩⟩⟩⟩⟩)
  clear hr hv hsz hdf e1 h1_1 e6 h1_6
  subst hput
  simp only [puts, Act.put, List.foldl_cons, List.foldl_nil, List.setIfInBounds_toArray, List.set_cons_succ, List.set_cons_zero]
  go_wp2
  go_ret
  exact ⟨rfl, below_next (below_new (below_new (Below.refl _ _) _) _) hbel1⟩
set_option maxHeartbeats 1000000 in
theorem walk2 (xs ys : List Nat) (lx : xs.length = 9) (ly : ys.length = 9) (wx : Ws xs) (wy : Ws ys) (px : decide (val xs < prime) = false) (w : World) :
    Calls Try.prog 5 #[(.agg (xs.map u64).toArray), (.agg (ys.map u64).toArray)] w fun e w' => e = .returned (.bool true) ∧ Below w.heap.size w w' := by
  go_enter Try.func5, Try.ntmps5
  go_upto_region 1 with fail
  refine wp_region_vals (by kernel_rfl) (by kernel_rfl) [6, 7, 8, 9, 10, 11, 12, 13, 14, 15] [.is (.slice (some ⟨w.heap.size, 0, none⟩) 9 9), .words pwords, .is (.bool false), .is (.bool true), .is (.bool true), .is undef, .is undef, .is undef, .is undef, .is (.bool true)] (by kernel_rfl) (by decide) (by kernel_rfl) ?hs1 ?hq1
  case hs1 =>
    intro i hi a' w' hb hr hv
    match i, hi with
    | 0, _ => exact slice_w (gd_none rfl) rfl ((hr 2 (by decide)).trans rfl)
    | 1, _ => exact prime_w (gd_none rfl) rfl
    | 2, _ => exact less_w lx wx px (gd_none rfl) rfl (hv 0 rfl) (hv 1 rfl) (has_next hb (has_old (has_new rfl)))
    | 3, _ => exact does_not (gd_none rfl) rfl (hv 2 rfl) rfl
    | 4, _ => exact does_move (gd_none rfl) rfl (hv 3 rfl)
    | 5, _ => exact does_skip (gd_some rfl rfl (hv 4 rfl) rfl) rfl
    | 6, _ => exact does_skip (gd_some rfl rfl (hv 4 rfl) rfl) rfl
    | 7, _ => exact does_skip (gd_some rfl rfl (hv 4 rfl) rfl) rfl
    | 8, _ => exact does_skip (gd_some rfl rfl (hv 4 rfl) rfl) rfl
    | 9, _ => exact does_pick (gd_none rfl) rfl (hv 4 rfl) rfl
    | n + 10, h => exact absurd h (Nat.not_lt.2 (Nat.le_add_left _ _))
  intro a' w1 hsz hdf hbel1 hr hv
  obtain ⟨g1_1, t1_1, f1_1, e1, h1_1⟩ := hv 1 (by decide)
  have hput := puts_eta [(6, (.slice (some ⟨w.heap.size, 0, none⟩) 9 9)), (7, .slice (some ⟨g1_1, 0, none⟩) 9 9), (8, (.bool false)), (9, (.bool true)), (10, (.bool true)), (11, undef), (12, undef), (13, undef), (14, undef), (15, (.bool true))] hsz hdf (show List.Nodup [6, 7, 8, 9, 10, 11, 12, 13, 14, 15] by decide) (by kernel_rfl) hr (List.forall_mem_cons.2 ⟨hv 0 (by decide), List.forall_mem_cons.2 ⟨e1, List.forall_mem_cons.2 ⟨hv 2 (by decide), List.forall_mem_cons.2 ⟨hv 3 (by decide), List.forall_mem_cons.2 ⟨hv 4 (by decide), List.forall_mem_cons.2 ⟨hv 5 (by decide), List.forall_mem_cons.2 ⟨hv 6 (by decide), List.forall_mem_cons.2 ⟨hv 7 (by decide), List.forall_mem_cons.2 ⟨hv 8 (by decide), List.forall_mem_cons.2 ⟨hv 9 (by decide), fun p hp => by cases hp⟩⟩⟩⟩⟩⟩⟩⟩⟩⟩)
  clear hr hv hsz hdf e1 h1_1
  subst hput
  simp only [puts, Act.put, List.foldl_cons, List.foldl_nil, List.setIfInBounds_toArray, List.set_cons_succ, List.set_cons_zero]
  go_wp2
  go_ret
  exact ⟨rfl, below_next (below_new (below_new (Below.refl _ _) _) _) hbel1⟩
set_option maxHeartbeats 1000000 in
theorem walk0 (xs ys : List Nat) (lx : xs.length = 9) (ly : ys.length = 9) (wx : Ws xs) (wy : Ws ys) (px : decide (val xs < prime) = true) (py : decide (val ys < prime) = true) (w : World) :
    Calls Try.prog 5 #[(.agg (xs.map u64).toArray), (.agg (ys.map u64).toArray)] w fun e w' => e = .returned (.bool true) ∧ Below w.heap.size w w' := by
  go_enter Try.func5, Try.ntmps5
  go_upto_region 1 with fail
  refine wp_region_vals (by kernel_rfl) (by kernel_rfl) [6, 7, 8, 9, 10, 11, 12, 13, 14, 15] [.is (.slice (some ⟨w.heap.size, 0, none⟩) 9 9), .words pwords, .is (.bool true), .is (.bool false), .is (.bool false), .is (.slice (some ⟨(w.heap.size + 1), 0, none⟩) 9 9), .words pwords, .is (.bool true), .is (.bool false), .is (.bool false)] (by kernel_rfl) (by decide) (by kernel_rfl) ?hs1 ?hq1
  case hs1 =>
    intro i hi a' w' hb hr hv
    match i, hi with
    | 0, _ => exact slice_w (gd_none rfl) rfl ((hr 2 (by decide)).trans rfl)
    | 1, _ => exact prime_w (gd_none rfl) rfl
    | 2, _ => exact less_w lx wx px (gd_none rfl) rfl (hv 0 rfl) (hv 1 rfl) (has_next hb (has_old (has_new rfl)))
    | 3, _ => exact does_not (gd_none rfl) rfl (hv 2 rfl) rfl
    | 4, _ => exact does_move (gd_none rfl) rfl (hv 3 rfl)
    | 5, _ => exact slice_w (gd_some rfl rfl (hv 4 rfl) rfl) rfl ((hr 3 (by decide)).trans rfl)
    | 6, _ => exact prime_w (gd_some rfl rfl (hv 4 rfl) rfl) rfl
    | 7, _ => exact less_w ly wy py (gd_some rfl rfl (hv 4 rfl) rfl) rfl (hv 5 rfl) (hv 6 rfl) (has_next hb (has_new (by simp)))
    | 8, _ => exact does_not (gd_some rfl rfl (hv 4 rfl) rfl) rfl (hv 7 rfl) rfl
    | 9, _ => exact does_pick (gd_none rfl) rfl (hv 4 rfl) (hv 8 rfl)
    | n + 10, h => exact absurd h (Nat.not_lt.2 (Nat.le_add_left _ _))
  intro a' w1 hsz hdf hbel1 hr hv
  obtain ⟨g1_1, t1_1, f1_1, e1, h1_1⟩ := hv 1 (by decide)
  obtain ⟨g1_6, t1_6, f1_6, e6, h1_6⟩ := hv 6 (by decide)
  have hput := puts_eta [(6, (.slice (some ⟨w.heap.size, 0, none⟩) 9 9)), (7, .slice (some ⟨g1_1, 0, none⟩) 9 9), (8, (.bool true)), (9, (.bool false)), (10, (.bool false)), (11, (.slice (some ⟨(w.heap.size + 1), 0, none⟩) 9 9)), (12, .slice (some ⟨g1_6, 0, none⟩) 9 9), (13, (.bool true)), (14, (.bool false)), (15, (.bool false))] hsz hdf (show List.Nodup [6, 7, 8, 9, 10, 11, 12, 13, 14, 15] by decide) (by kernel_rfl) hr (List.forall_mem_cons.2 ⟨hv 0 (by decide), List.forall_mem_cons.2 ⟨e1, List.forall_mem_cons.2 ⟨hv 2 (by decide), List.forall_mem_cons.2 ⟨hv 3 (by decide), List.forall_mem_cons.2 ⟨hv 4 (by decide), List.forall_mem_cons.2 ⟨hv 5 (by decide), List.forall_mem_cons.2 ⟨e6, List.forall_mem_cons.2 ⟨hv 7 (by decide), List.forall_mem_cons.2 ⟨hv 8 (by decide), List.forall_mem_cons.2 ⟨hv 9 (by decide), fun p hp => by cases hp⟩⟩⟩⟩⟩⟩⟩⟩⟩⟩)
  clear hr hv hsz hdf e1 h1_1 e6 h1_6
  subst hput
  simp only [puts, Act.put, List.foldl_cons, List.foldl_nil, List.setIfInBounds_toArray, List.set_cons_succ, List.set_cons_zero]
  have HX : w1.heap[w.heap.size]? = some (.cells (xs.map u64).toArray 23 (0, 0)) := has_next hbel1 (has_old (has_new rfl))
  have HY : w1.heap[w.heap.size + 1]? = some (.cells (ys.map u64).toArray 23 (0, 0)) := has_next hbel1 (has_new (by simp))
  go_upto_region 3 with fail
  go_wp2_with (first | (refine wpList_load_row rfl 23 (.tmp 2) rfl w.heap.size rfl 23 _ (0, 0) _ HX Try.underlying23 rfl (info_len lx) ?_) | (refine wpList_load_row rfl 23 (.tmp 3) rfl (w.heap.size + 1) rfl 23 _ (0, 0) _ HY Try.underlying23 rfl (info_len ly) ?_))
  obtain ⟨zs, hzs⟩ : ∃ zs, wordsOf 9 ((val xs + val ys) % prime) = zs := ⟨_, rfl⟩
  have lz : zs.length = 9 := by rw [← hzs]; exact length_wordsOf _ _
  have wz : Ws zs := by rw [← hzs]; exact ws_wordsOf _ _
  have qx := of_decide_eq_true px
  have qy := of_decide_eq_true py
  have vz : val zs = (val xs + val ys) % prime := by rw [← hzs]; exact val_wordsOf 9 _ (Nat.lt_trans (Nat.mod_lt _ prime_pos) (by decide +kernel))
  have qz : val zs < prime := by rw [vz]; exact Nat.mod_lt _ prime_pos
  have hbb := below_next (below_new (below_new (Below.refl _ w) _) _) hbel1
  refine (add_words xs ys lx ly wx wy qx qy _).mono ?_
  rw [hzs]
  rintro e w2 ⟨rfl, hb2⟩
  replace HX := has_next hb2 HX
  replace HY := has_next hb2 HY
  replace hbb := below_next hbb hb2
  clear hbel1 hb2
  go_wp2_with (refine wpList_store_row rfl 23 (.tmp 5) (.tmp 18) rfl w2.heap.size _ rfl rfl 23 _ (has_new rfl) (info_len lz) (by simp [lz]) (all_u64 _) ?_)
  go_upto_region 4 with fail
  by_cases hxy : xs = ys
  ·
    refine wp_region_vals (by kernel_rfl) (by kernel_rfl) [19, 20, 21, 22, 23, 24, 25, 26, 27, 28, 29, 30, 31, 32, 33, 34, 35, 36, 37, 38, 39, 40, 41, 42, 43, 44, 45, 46, 47, 4] [.is (.agg (zs.map u64).toArray), .is (.agg (ys.map u64).toArray), .is (.agg (xs.map u64).toArray), .is (.agg (zs.map u64).toArray), .is (.bool true), .is (.bool true), .is (.slice (some ⟨w2.heap.size, 0, none⟩) 9 9), .words pwords, .is (.bool true), .is (.bool true), .is (.bool true), .is (.agg (xs.map u64).toArray), .is (.agg (ys.map u64).toArray), .is (.bool false), .is (.bool false), .is (.agg (zs.map u64).toArray), .is (.agg (xs.map u64).toArray), .is (.agg (xs.map u64).toArray), .is (.agg (zs.map u64).toArray), .is (.bool true), .is (.bool true), .is (.bool true), .is (.bool true), .is (.agg (zs.map u64).toArray), .is (.agg (ys.map u64).toArray), .is (.agg (xs.map u64).toArray), .is (.agg (xs.map u64).toArray), .is (.bool true), .is (.bool true), .is (.bool true)] (by kernel_rfl) (by decide) (by kernel_rfl) ?hs4a ?hq4a
    case hs4a =>
      intro i hi a' w' hb hr hv
      match i, hi with
      | 0, _ => exact load_w lz (gd_none rfl) rfl ((hr 5 (by decide)).trans rfl) (has_next hb new_store)
      | 1, _ => exact load_w ly (gd_none rfl) rfl ((hr 3 (by decide)).trans rfl) (has_next hb (kept_store HY))
      | 2, _ => exact load_w lx (gd_none rfl) rfl ((hr 2 (by decide)).trans rfl) (has_next hb (kept_store HX))
      | 3, _ => exact add_w ly lx wy wx qy qx (by rw [Nat.add_comm]; exact hzs) (gd_none rfl) rfl (hv 1 rfl) (hv 2 rfl)
      | 4, _ => exact eql_w lz lz (gd_none rfl) rfl (hv 0 rfl) (hv 3 rfl) (decide_eq_true rfl) rfl
      | 5, _ => exact does_move (gd_none rfl) rfl (hv 4 rfl)
      | 6, _ => exact slice_w (gd_some rfl rfl (hv 5 rfl) rfl) rfl ((hr 5 (by decide)).trans rfl)
      | 7, _ => exact prime_w (gd_some rfl rfl (hv 5 rfl) rfl) rfl
      | 8, _ => exact less_w lz wz (decide_eq_true qz) (gd_some rfl rfl (hv 5 rfl) rfl) rfl (hv 6 rfl) (hv 7 rfl) (has_next hb new_store)
      | 9, _ => exact does_pick (gd_none rfl) rfl (hv 5 rfl) (hv 8 rfl)
      | 10, _ => exact does_move (gd_none rfl) rfl (hv 9 rfl)
      | 11, _ => exact load_w lx (gd_some rfl rfl (hv 10 rfl) rfl) rfl ((hr 2 (by decide)).trans rfl) (has_next hb (kept_store HX))
      | 12, _ => exact load_w ly (gd_some rfl rfl (hv 10 rfl) rfl) rfl ((hr 3 (by decide)).trans rfl) (has_next hb (kept_store HY))
      | 13, _ => exact neq_w lx ly (gd_some rfl rfl (hv 10 rfl) rfl) rfl (hv 11 rfl) (hv 12 rfl) (decide_eq_true hxy) rfl
      | 14, _ => exact does_move (gd_some rfl rfl (hv 10 rfl) rfl) rfl (hv 13 rfl)
      | 15, _ => exact load_w lz (gd_some rfl rfl (hv 14 rfl) rfl) rfl ((hr 5 (by decide)).trans rfl) (has_next hb new_store)
      | 16, _ => exact load_w lx (gd_some rfl rfl (hv 14 rfl) rfl) rfl ((hr 2 (by decide)).trans rfl) (has_next hb (kept_store HX))
      | 17, _ => exact load_w lx (gd_some rfl rfl (hv 14 rfl) rfl) rfl ((hr 2 (by decide)).trans rfl) (has_next hb (kept_store HX))
      | 18, _ => exact add_w lx lx wx wx qx qx (by rw [← hzs, ← hxy]) (gd_some rfl rfl (hv 14 rfl) rfl) rfl (hv 16 rfl) (hv 17 rfl)
      | 19, _ => exact eql_w lz lz (gd_some rfl rfl (hv 14 rfl) rfl) rfl (hv 15 rfl) (hv 18 rfl) (decide_eq_true rfl) rfl
      | 20, _ => exact does_pick (gd_some rfl rfl (hv 10 rfl) rfl) rfl (hv 14 rfl) (hv 19 rfl)
      | 21, _ => exact does_pick (gd_none rfl) rfl (hv 10 rfl) (hv 20 rfl)
      | 22, _ => exact does_move (gd_none rfl) rfl (hv 21 rfl)
      | 23, _ => exact load_w lz (gd_some rfl rfl (hv 22 rfl) rfl) rfl ((hr 5 (by decide)).trans rfl) (has_next hb new_store)
      | 24, _ => exact load_w ly (gd_some rfl rfl (hv 22 rfl) rfl) rfl ((hr 3 (by decide)).trans rfl) (has_next hb (kept_store HY))
      | 25, _ => exact sub_w lz ly wz wy qz qy (mod_self lx wx _ (add_sub qx qy vz)) (gd_some rfl rfl (hv 22 rfl) rfl) rfl (hv 23 rfl) (hv 24 rfl)
      | 26, _ => exact load_w lx (gd_some rfl rfl (hv 22 rfl) rfl) rfl ((hr 2 (by decide)).trans rfl) (has_next hb (kept_store HX))
      | 27, _ => exact eql_w lx lx (gd_some rfl rfl (hv 22 rfl) rfl) rfl (hv 25 rfl) (hv 26 rfl) (decide_eq_true rfl) rfl
      | 28, _ => exact does_pick (gd_none rfl) rfl (hv 22 rfl) (hv 27 rfl)
      | 29, _ => exact does_assign (gd_none rfl) rfl (hv 28 rfl)
      | n + 30, h => exact absurd h (Nat.not_lt.2 (Nat.le_add_left _ _))
    intro a' w4a hsz hdf hbel4a hr hv
    obtain ⟨g4a_7, t4a_7, f4a_7, e7, h4a_7⟩ := hv 7 (by decide)
    have hput := puts_eta [(19, (.agg (zs.map u64).toArray)), (20, (.agg (ys.map u64).toArray)), (21, (.agg (xs.map u64).toArray)), (22, (.agg (zs.map u64).toArray)), (23, (.bool true)), (24, (.bool true)), (25, (.slice (some ⟨w2.heap.size, 0, none⟩) 9 9)), (26, .slice (some ⟨g4a_7, 0, none⟩) 9 9), (27, (.bool true)), (28, (.bool true)), (29, (.bool true)), (30, (.agg (xs.map u64).toArray)), (31, (.agg (ys.map u64).toArray)), (32, (.bool false)), (33, (.bool false)), (34, (.agg (zs.map u64).toArray)), (35, (.agg (xs.map u64).toArray)), (36, (.agg (xs.map u64).toArray)), (37, (.agg (zs.map u64).toArray)), (38, (.bool true)), (39, (.bool true)), (40, (.bool true)), (41, (.bool true)), (42, (.agg (zs.map u64).toArray)), (43, (.agg (ys.map u64).toArray)), (44, (.agg (xs.map u64).toArray)), (45, (.agg (xs.map u64).toArray)), (46, (.bool true)), (47, (.bool true)), (4, (.bool true))] hsz hdf (show List.Nodup [19, 20, 21, 22, 23, 24, 25, 26, 27, 28, 29, 30, 31, 32, 33, 34, 35, 36, 37, 38, 39, 40, 41, 42, 43, 44, 45, 46, 47, 4] by decide) (by kernel_rfl) hr (List.forall_mem_cons.2 ⟨hv 0 (by decide), List.forall_mem_cons.2 ⟨hv 1 (by decide), List.forall_mem_cons.2 ⟨hv 2 (by decide), List.forall_mem_cons.2 ⟨hv 3 (by decide), List.forall_mem_cons.2 ⟨hv 4 (by decide), List.forall_mem_cons.2 ⟨hv 5 (by decide), List.forall_mem_cons.2 ⟨hv 6 (by decide), List.forall_mem_cons.2 ⟨e7, List.forall_mem_cons.2 ⟨hv 8 (by decide), List.forall_mem_cons.2 ⟨hv 9 (by decide), List.forall_mem_cons.2 ⟨hv 10 (by decide), List.forall_mem_cons.2 ⟨hv 11 (by decide), List.forall_mem_cons.2 ⟨hv 12 (by decide), List.forall_mem_cons.2 ⟨hv 13 (by decide), List.forall_mem_cons.2 ⟨hv 14 (by decide), List.forall_mem_cons.2 ⟨hv 15 (by decide), List.forall_mem_cons.2 ⟨hv 16 (by decide), List.forall_mem_cons.2 ⟨hv 17 (by decide), List.forall_mem_cons.2 ⟨hv 18 (by decide), List.forall_mem_cons.2 ⟨hv 19 (by decide), List.forall_mem_cons.2 ⟨hv 20 (by decide), List.forall_mem_cons.2 ⟨hv 21 (by decide), List.forall_mem_cons.2 ⟨hv 22 (by decide), List.forall_mem_cons.2 ⟨hv 23 (by decide), List.forall_mem_cons.2 ⟨hv 24 (by decide), List.forall_mem_cons.2 ⟨hv 25 (by decide), List.forall_mem_cons.2 ⟨hv 26 (by decide), List.forall_mem_cons.2 ⟨hv 27 (by decide), List.forall_mem_cons.2 ⟨hv 28 (by decide), List.forall_mem_cons.2 ⟨hv 29 (by decide), fun p hp => by cases hp⟩⟩⟩⟩⟩⟩⟩⟩⟩⟩⟩⟩⟩⟩⟩⟩⟩⟩⟩⟩⟩⟩⟩⟩⟩⟩⟩⟩⟩⟩)
    clear hr hv hsz hdf e7 h4a_7
    subst hput
    simp only [puts, Act.put, List.foldl_cons, List.foldl_nil, List.setIfInBounds_toArray, List.set_cons_succ, List.set_cons_zero]
    go_wp2
    go_ret
    exact ⟨rfl, below_next (below_store hbb) hbel4a⟩
  ·
    refine wp_region_vals (by kernel_rfl) (by kernel_rfl) [19, 20, 21, 22, 23, 24, 25, 26, 27, 28, 29, 30, 31, 32, 33, 34, 35, 36, 37, 38, 39, 40, 41, 42, 43, 44, 45, 46, 47, 4] [.is (.agg (zs.map u64).toArray), .is (.agg (ys.map u64).toArray), .is (.agg (xs.map u64).toArray), .is (.agg (zs.map u64).toArray), .is (.bool true), .is (.bool true), .is (.slice (some ⟨w2.heap.size, 0, none⟩) 9 9), .words pwords, .is (.bool true), .is (.bool true), .is (.bool true), .is (.agg (xs.map u64).toArray), .is (.agg (ys.map u64).toArray), .is (.bool true), .is (.bool true), .is undef, .is undef, .is undef, .is undef, .is undef, .is (.bool true), .is (.bool true), .is (.bool true), .is (.agg (zs.map u64).toArray), .is (.agg (ys.map u64).toArray), .is (.agg (xs.map u64).toArray), .is (.agg (xs.map u64).toArray), .is (.bool true), .is (.bool true), .is (.bool true)] (by kernel_rfl) (by decide) (by kernel_rfl) ?hs4b ?hq4b
    case hs4b =>
      intro i hi a' w' hb hr hv
      match i, hi with
      | 0, _ => exact load_w lz (gd_none rfl) rfl ((hr 5 (by decide)).trans rfl) (has_next hb new_store)
      | 1, _ => exact load_w ly (gd_none rfl) rfl ((hr 3 (by decide)).trans rfl) (has_next hb (kept_store HY))
      | 2, _ => exact load_w lx (gd_none rfl) rfl ((hr 2 (by decide)).trans rfl) (has_next hb (kept_store HX))
      | 3, _ => exact add_w ly lx wy wx qy qx (by rw [Nat.add_comm]; exact hzs) (gd_none rfl) rfl (hv 1 rfl) (hv 2 rfl)
      | 4, _ => exact eql_w lz lz (gd_none rfl) rfl (hv 0 rfl) (hv 3 rfl) (decide_eq_true rfl) rfl
      | 5, _ => exact does_move (gd_none rfl) rfl (hv 4 rfl)
      | 6, _ => exact slice_w (gd_some rfl rfl (hv 5 rfl) rfl) rfl ((hr 5 (by decide)).trans rfl)
      | 7, _ => exact prime_w (gd_some rfl rfl (hv 5 rfl) rfl) rfl
      | 8, _ => exact less_w lz wz (decide_eq_true qz) (gd_some rfl rfl (hv 5 rfl) rfl) rfl (hv 6 rfl) (hv 7 rfl) (has_next hb new_store)
      | 9, _ => exact does_pick (gd_none rfl) rfl (hv 5 rfl) (hv 8 rfl)
      | 10, _ => exact does_move (gd_none rfl) rfl (hv 9 rfl)
      | 11, _ => exact load_w lx (gd_some rfl rfl (hv 10 rfl) rfl) rfl ((hr 2 (by decide)).trans rfl) (has_next hb (kept_store HX))
      | 12, _ => exact load_w ly (gd_some rfl rfl (hv 10 rfl) rfl) rfl ((hr 3 (by decide)).trans rfl) (has_next hb (kept_store HY))
      | 13, _ => exact neq_w lx ly (gd_some rfl rfl (hv 10 rfl) rfl) rfl (hv 11 rfl) (hv 12 rfl) (decide_eq_false hxy) rfl
      | 14, _ => exact does_move (gd_some rfl rfl (hv 10 rfl) rfl) rfl (hv 13 rfl)
      | 15, _ => exact does_skip (gd_some rfl rfl (hv 14 rfl) rfl) rfl
      | 16, _ => exact does_skip (gd_some rfl rfl (hv 14 rfl) rfl) rfl
      | 17, _ => exact does_skip (gd_some rfl rfl (hv 14 rfl) rfl) rfl
      | 18, _ => exact does_skip (gd_some rfl rfl (hv 14 rfl) rfl) rfl
      | 19, _ => exact does_skip (gd_some rfl rfl (hv 14 rfl) rfl) rfl
      | 20, _ => exact does_pick (gd_some rfl rfl (hv 10 rfl) rfl) rfl (hv 14 rfl) rfl
      | 21, _ => exact does_pick (gd_none rfl) rfl (hv 10 rfl) (hv 20 rfl)
      | 22, _ => exact does_move (gd_none rfl) rfl (hv 21 rfl)
      | 23, _ => exact load_w lz (gd_some rfl rfl (hv 22 rfl) rfl) rfl ((hr 5 (by decide)).trans rfl) (has_next hb new_store)
      | 24, _ => exact load_w ly (gd_some rfl rfl (hv 22 rfl) rfl) rfl ((hr 3 (by decide)).trans rfl) (has_next hb (kept_store HY))
      | 25, _ => exact sub_w lz ly wz wy qz qy (mod_self lx wx _ (add_sub qx qy vz)) (gd_some rfl rfl (hv 22 rfl) rfl) rfl (hv 23 rfl) (hv 24 rfl)
      | 26, _ => exact load_w lx (gd_some rfl rfl (hv 22 rfl) rfl) rfl ((hr 2 (by decide)).trans rfl) (has_next hb (kept_store HX))
      | 27, _ => exact eql_w lx lx (gd_some rfl rfl (hv 22 rfl) rfl) rfl (hv 25 rfl) (hv 26 rfl) (decide_eq_true rfl) rfl
      | 28, _ => exact does_pick (gd_none rfl) rfl (hv 22 rfl) (hv 27 rfl)
      | 29, _ => exact does_assign (gd_none rfl) rfl (hv 28 rfl)
      | n + 30, h => exact absurd h (Nat.not_lt.2 (Nat.le_add_left _ _))
    intro a' w4b hsz hdf hbel4b hr hv
    obtain ⟨g4b_7, t4b_7, f4b_7, e7, h4b_7⟩ := hv 7 (by decide)
    have hput := puts_eta [(19, (.agg (zs.map u64).toArray)), (20, (.agg (ys.map u64).toArray)), (21, (.agg (xs.map u64).toArray)), (22, (.agg (zs.map u64).toArray)), (23, (.bool true)), (24, (.bool true)), (25, (.slice (some ⟨w2.heap.size, 0, none⟩) 9 9)), (26, .slice (some ⟨g4b_7, 0, none⟩) 9 9), (27, (.bool true)), (28, (.bool true)), (29, (.bool true)), (30, (.agg (xs.map u64).toArray)), (31, (.agg (ys.map u64).toArray)), (32, (.bool true)), (33, (.bool true)), (34, undef), (35, undef), (36, undef), (37, undef), (38, undef), (39, (.bool true)), (40, (.bool true)), (41, (.bool true)), (42, (.agg (zs.map u64).toArray)), (43, (.agg (ys.map u64).toArray)), (44, (.agg (xs.map u64).toArray)), (45, (.agg (xs.map u64).toArray)), (46, (.bool true)), (47, (.bool true)), (4, (.bool true))] hsz hdf (show List.Nodup [19, 20, 21, 22, 23, 24, 25, 26, 27, 28, 29, 30, 31, 32, 33, 34, 35, 36, 37, 38, 39, 40, 41, 42, 43, 44, 45, 46, 47, 4] by decide) (by kernel_rfl) hr (List.forall_mem_cons.2 ⟨hv 0 (by decide), List.forall_mem_cons.2 ⟨hv 1 (by decide), List.forall_mem_cons.2 ⟨hv 2 (by decide), List.forall_mem_cons.2 ⟨hv 3 (by decide), List.forall_mem_cons.2 ⟨hv 4 (by decide), List.forall_mem_cons.2 ⟨hv 5 (by decide), List.forall_mem_cons.2 ⟨hv 6 (by decide), List.forall_mem_cons.2 ⟨e7, List.forall_mem_cons.2 ⟨hv 8 (by decide), List.forall_mem_cons.2 ⟨hv 9 (by decide), List.forall_mem_cons.2 ⟨hv 10 (by decide), List.forall_mem_cons.2 ⟨hv 11 (by decide), List.forall_mem_cons.2 ⟨hv 12 (by decide), List.forall_mem_cons.2 ⟨hv 13 (by decide), List.forall_mem_cons.2 ⟨hv 14 (by decide), List.forall_mem_cons.2 ⟨hv 15 (by decide), List.forall_mem_cons.2 ⟨hv 16 (by decide), List.forall_mem_cons.2 ⟨hv 17 (by decide), List.forall_mem_cons.2 ⟨hv 18 (by decide), List.forall_mem_cons.2 ⟨hv 19 (by decide), List.forall_mem_cons.2 ⟨hv 20 (by decide), List.forall_mem_cons.2 ⟨hv 21 (by decide), List.forall_mem_cons.2 ⟨hv 22 (by decide), List.forall_mem_cons.2 ⟨hv 23 (by decide), List.forall_mem_cons.2 ⟨hv 24 (by decide), List.forall_mem_cons.2 ⟨hv 25 (by decide), List.forall_mem_cons.2 ⟨hv 26 (by decide), List.forall_mem_cons.2 ⟨hv 27 (by decide), List.forall_mem_cons.2 ⟨hv 28 (by decide), List.forall_mem_cons.2 ⟨hv 29 (by decide), fun p hp => by cases hp⟩⟩⟩⟩⟩⟩⟩⟩⟩⟩⟩⟩⟩⟩⟩⟩⟩⟩⟩⟩⟩⟩⟩⟩⟩⟩⟩⟩⟩⟩)
    clear hr hv hsz hdf e7 h4b_7
    subst hput
    simp only [puts, Act.put, List.foldl_cons, List.foldl_nil, List.setIfInBounds_toArray, List.set_cons_succ, List.set_cons_zero]
    go_wp2
    go_ret
    exact ⟨rfl, below_next (below_store hbb) hbel4b⟩
theorem walk (a0 a1 a2 a3 a4 a5 a6 a7 a8 b0 b1 b2 b3 b4 b5 b6 b7 b8 : Nat) (ha : Ws [a0, a1, a2, a3, a4, a5, a6, a7, a8]) (hb : Ws [b0, b1, b2, b3, b4, b5, b6, b7, b8]) (w : World) :
    Calls Try.prog 5 #[.agg #[.int .u64 a0, .int .u64 a1, .int .u64 a2, .int .u64 a3, .int .u64 a4, .int .u64 a5, .int .u64 a6, .int .u64 a7, .int .u64 a8], .agg #[.int .u64 b0, .int .u64 b1, .int .u64 b2, .int .u64 b3, .int .u64 b4, .int .u64 b5, .int .u64 b6, .int .u64 b7, .int .u64 b8]] w fun e w' => e = .returned (.bool true) ∧ Below w.heap.size w w' := by
  by_cases h1 : val [a0, a1, a2, a3, a4, a5, a6, a7, a8] < prime
  · by_cases h2 : val [b0, b1, b2, b3, b4, b5, b6, b7, b8] < prime
    · exact walk0 [a0, a1, a2, a3, a4, a5, a6, a7, a8] [b0, b1, b2, b3, b4, b5, b6, b7, b8] rfl rfl ha hb (decide_eq_true h1) (decide_eq_true h2) w
    · exact walk1 [a0, a1, a2, a3, a4, a5, a6, a7, a8] [b0, b1, b2, b3, b4, b5, b6, b7, b8] rfl rfl ha hb (decide_eq_true h1) (decide_eq_false h2) w
  · exact walk2 [a0, a1, a2, a3, a4, a5, a6, a7, a8] [b0, b1, b2, b3, b4, b5, b6, b7, b8] rfl rfl ha hb (decide_eq_false h1) w

set_option maxRecDepth 100000 in
theorem lifted (os : Os) (started : os.Started) (H : Type) (enc : TypeId × Value → H) :
    ReturnsInHanded {} Try.checked os 5 .any (Rows.fnAddTurnedP521Spec.pre6 enc Try.prog Try.f5 Rows.fnAddTurnedP521Row.domain false) (Rows.fnAddTurnedP521Spec.post enc Try.prog Try.f5 false true false false) := by
  refine returnsInHanded_of_change (C := Try.checked) own started (by kernel_rfl) Try.func5
    (ChangeSpec.witness6 (enc := enc) (C := Try.checked) false ⟨#[], #[.agg #[.int .u64 0, .int .u64 0, .int .u64 0, .int .u64 0, .int .u64 0, .int .u64 0, .int .u64 0, .int .u64 0, .int .u64 0], .agg #[.int .u64 0, .int .u64 0, .int .u64 0, .int .u64 0, .int .u64 0, .int .u64 0, .int .u64 0, .int .u64 0, .int .u64 0]], []⟩ 8 (by kernel_rfl) (by kernel_rfl) (by kernel_rfl) (by kernel_rfl)) ?_
  intro W base args ds gs before hval0 hW hcnd _
  have hval : ∀ (j : Nat) t v, Try.f5.params[j]? = some t → args[j]? = some v → Value.okWide Try.prog W .any base t v := hval0
  have hW' := hW
  obtain ⟨p, q, hA0, hV, rfl, hfz, hnd⟩ := hW
  have hA : DataW.TrodAll enc Try.prog W 0 (fun _ => true) true Try.f5.params.toList args.toList ds p := hA0
  rw [Try.params5] at hA hval
  obtain ⟨v0, vs0, d0, ds0, p0, q0, hargs, rfl, rfl, h0, r0⟩ := trodAll_cons hA
  obtain ⟨v1, vs1, d1, ds1, p1, q1, rfl, rfl, rfl, h1, r1⟩ := trodAll_cons r0
  obtain ⟨rfl, rfl, rfl⟩ := trodAll_nil r1
  obtain rfl : args = #[v0, v1] := by cases args; simp_all
  obtain ⟨rfl, rfl⟩ := trodVars_none hV
  have k0 := h0
  have lt0 : ∀ x ∈ p0, x.block < W.heap.size := by obtain ⟨m, hm⟩ := k0; exact DataW.trod_lt m _ _ _ hm
  obtain ⟨x0, l0, w0, rfl⟩ := open_words Try.underlying23 Try.underlying22 cells_e cells_t (hval 0 23 v0 rfl rfl) h0
  obtain ⟨a0, a1, a2, a3, a4, a5, a6, a7, a8, rfl⟩ := len_all l0
  have k1 := h1
  have lt1 : ∀ x ∈ p1, x.block < W.heap.size := by obtain ⟨m, hm⟩ := k1; exact DataW.trod_lt m _ _ _ hm
  obtain ⟨x1, l1, w1, rfl⟩ := open_words Try.underlying23 Try.underlying22 cells_e cells_t (hval 1 23 v1 rfl rfl) h1
  obtain ⟨b0, b1, b2, b3, b4, b5, b6, b7, b8, rfl⟩ := len_all l1
  clear hA0 hval0
  refine (walk a0 a1 a2 a3 a4 a5 a6 a7 a8 b0 b1 b2 b3 b4 b5 b6 b7 b8 w0 w1 W).mono fun e W' ⟨he, bel⟩ => ?_
  subst he
  exact ⟨_, rfl, _, _, _, [], _, [], hW', trodAll_mk1 (shut_bool Try.underlying4 _), (trodAll_cons_mk (Below.trod laidOut (by kernel_rfl) (of_decide_eq_true (by kernel_rfl)) k0 bel lt0) (trodAll_cons_mk (Below.trod laidOut (by kernel_rfl) (of_decide_eq_true (by kernel_rfl)) k1 bel lt1) trodAll_mk0)), rfl, bel.frame _, fun h => by cases h⟩

theorem over : Rows.fnAddTurnedP521Row.holds Try.pinned (OpenSpec.ofChange Rows.fnAddTurnedP521Spec) :=
  OpenClaim.holds_of_wide 5 Try.f5 rfl rfl rfl rfl rfl rfl rfl ⟨rfl, rfl, rfl, rfl, rfl⟩ rfl rfl rfl rfl rfl (by kernel_rfl) Try.func5 (by kernel_rfl)
    (of_decide_eq_true (by kernel_rfl)) (by unfold Func.isWrapper; first | (rw [if_pos (by decide +kernel)]; kernel_rfl) | (rw [if_neg (by decide +kernel)]; exact ⟨rfl, rfl⟩))
    (fun os started H enc _ => lifted os started H enc)

end Go.Proofs.Ytnpeilpnpedmcaa.AddTurned
namespace Go.Proofs.Ytnpeilpnpedmcaa
theorem fnAddTurnedP521Holds : Rows.FnAddTurnedP521Said := AddTurned.over
#print axioms fnAddTurnedP521Holds
end Go.Proofs.Ytnpeilpnpedmcaa
