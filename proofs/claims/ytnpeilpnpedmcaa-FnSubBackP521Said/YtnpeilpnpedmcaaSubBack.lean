/-
  The law FnSubBackP521 returns true for every input, and each argument reads afterwards as it read before: (a - b) + b is a, and (a - b) + (b - a) is 0, for elements below the prime. No conditions.
-/
import Derived.Test.YtnpeilpnpedmcaaLaw
namespace Go.Proofs.Ytnpeilpnpedmcaa.SubBack
set_option linter.unusedSimpArgs false
set_option linter.unusedVariables false
open Go.RowKit Num
open Go.ChangeShapes Go.WideShapes Go.ChangeAt
set_option linter.unusedVariables false

theorem set_ne {listed : Array Bool} {i k n : Nat} (hsz : listed.size = n) (hi : i < n) (h : k ≠ i) : (listed.setIfInBounds i true).getD k false = listed.getD k false := by
  rw [getD_set _ _ _ (by omega), if_neg h]
theorem wp_region_inv2 {P : Program} {id : Nat} {ops : Array Oper} {Q : Exit → Act → World → Prop} {a : Act} {w : World} (hm : P.follows .mixedOrders = true) (hac : acycB ops = true) (JJ : Act → Array Bool → Act → World → Prop)
    (h0 : JJ a (Array.replicate ops.size false) a w.drew)
    (hs : ∀ (i : Nat), i < ops.size → ∀ (listed : Array Bool) (a' : Act) (w : World), JJ a listed a' w → listed.size = ops.size → listed.getD i false = false →
      (∀ k, dep ops i k = true → listed.getD k false = true) → wpOp P ops Q i (JJ a (listed.setIfInBounds i true)) a' w)
    (hq : ∀ (listed : Array Bool) (a' : Act) (w : World), (∀ i, i < ops.size → listed.getD i false = true) → JJ a listed a' w → Q .normal a' w) : (Code.region id ops true).wp P Q a w := by
  refine wp_region_inv hm hac (JJ a) h0 (fun listed a' w i o hJ hsz ho hu hd => ?_) hq
  have hi := (Array.getElem?_eq_some_iff.1 ho).1
  refine hs i hi listed a' w hJ hsz ?_ (fun k hk => ?_)
  · have : i < listed.size := by omega
    simpa [Array.getD_eq_getD_getElem?, this] using hu
  · unfold dep at hk
    rw [ho] at hk
    obtain ⟨e, he, h2⟩ := List.any_eq_true.1 hk
    replace he := Array.mem_toList_iff.1 he
    simp only [Bool.and_eq_true, beq_iff_eq] at h2
    obtain ⟨h2, rfl⟩ := h2
    exact hd e he h2
theorem call2_at {P : Program} {f : FuncId} {fn : Func} (hf : P.funcs[f]? = some fn) (hn : (fn.name == "runtime.NumGoroutine") = false) (hb : fn.body.isNone = false) {o : Oper} {a : Act} {w : World} {x y : Operand} {ts : Array TypeId}
    (ho : o.op = .call { callee := .value (.func f), args := #[x, y], argTypes := ts }) {u v : Value} (hx : a.eval x = u) (hy : a.eval y = v) : (execOp a.eval o).run P w = .ok (.enter f #[u, v]) w := by
  rw [← hx, ← hy]; exact run_call2 hf hn hb ho

theorem mod_words (v : Nat) : ∃ x0 x1 x2 x3 x4 x5 x6 x7 x8 : Nat, wordsOf 9 (v % prime) = [x0, x1, x2, x3, x4, x5, x6, x7, x8] ∧ Ws [x0, x1, x2, x3, x4, x5, x6, x7, x8] ∧ val [x0, x1, x2, x3, x4, x5, x6, x7, x8] = v % prime := by
  have h1 : v % prime < 18446744073709551616 ^ 9 := Nat.lt_trans (Nat.mod_lt _ (by decide +kernel)) (by decide +kernel)
  have hw := ws_wordsOf 9 (v % prime)
  have hv := val_wordsOf 9 (v % prime) h1
  obtain ⟨x0, x1, x2, x3, x4, x5, x6, x7, x8, e⟩ := len_all (length_wordsOf 9 (v % prime))
  rw [e] at hw hv
  exact ⟨x0, x1, x2, x3, x4, x5, x6, x7, x8, e, hw, hv⟩
theorem prime_pos : 0 < prime := by decide +kernel
theorem mod_self {l : List Nat} (hl : l.length = 9) (hw : Ws l) (v : Nat) (h : v = val l) : wordsOf 9 v = l := wordsOf_of hw hl h.symm
theorem sub_add {p x y z : Nat} (hx : x < p) (hy : y < p) (hz : z = (x + (p - y)) % p) : (z + y) % p = x := by
  subst hz
  rw [Nat.mod_add_mod, show x + (p - y) + y = x + p by omega, Nat.add_mod_right, Nat.mod_eq_of_lt hx]
theorem sub_sub {p x y z z' : Nat} (hx : x < p) (hy : y < p) (hz : z = (x + (p - y)) % p) (hz' : z' = (y + (p - x)) % p) : (z + z') % p = 0 := by
  subst hz; subst hz'
  rw [Nat.mod_add_mod, Nat.add_mod_mod, show x + (p - y) + (y + (p - x)) = p + p by omega, Nat.add_mod_right, Nat.mod_self]
theorem zero_words : wordsOf 9 0 = [0, 0, 0, 0, 0, 0, 0, 0, 0] := by decide +kernel
/-- What holds of the two differences, whatever has been done so far. -/
structure J3 (w1 : World) (a0 : Act) (xs ys ds es : List Nat) (listed : Array Bool) (a : Act) (w : World) : Prop where
  size : a.tmps.size = 35
  defers : a.defers = a0.defers
  rest : ∀ t, t ∉ [17, 18, 19, 20, 21, 22, 5, 6] → a.tmps.getD t undef = a0.tmps.getD t undef
  bel : Below w1.heap.size w1 w
  s17 : listed.getD 0 false = true → a.tmps.getD 17 undef = .agg (xs.map u64).toArray
  s18 : listed.getD 1 false = true → a.tmps.getD 18 undef = .agg (ys.map u64).toArray
  s19 : listed.getD 2 false = true → a.tmps.getD 19 undef = .agg (ds.map u64).toArray
  s20 : listed.getD 3 false = true → a.tmps.getD 20 undef = .agg (ys.map u64).toArray
  s21 : listed.getD 4 false = true → a.tmps.getD 21 undef = .agg (xs.map u64).toArray
  s22 : listed.getD 5 false = true → a.tmps.getD 22 undef = .agg (es.map u64).toArray
  s5 : listed.getD 6 false = true → ∃ g cs, a.tmps.getD 5 undef = .pointer (some ⟨g, 0, none⟩) ∧ w1.heap.size ≤ g ∧ w.heap[g]? = some (.cells cs 23 (0, 0)) ∧ cs.size = 9 ∧ (listed.getD 8 false = true → cs = (ds.map u64).toArray)
  s6 : listed.getD 7 false = true → ∃ g cs, a.tmps.getD 6 undef = .pointer (some ⟨g, 0, none⟩) ∧ w1.heap.size ≤ g ∧ w.heap[g]? = some (.cells cs 23 (0, 0)) ∧ cs.size = 9 ∧ (listed.getD 9 false = true → cs = (es.map u64).toArray)
  ne : listed.getD 6 false = true → listed.getD 7 false = true → a.tmps.getD 5 undef ≠ a.tmps.getD 6 undef
  c8 : listed.getD 8 false = true → listed.getD 6 false = true
  c9 : listed.getD 9 false = true → listed.getD 7 false = true
section
variable {w1 : World} {a0 : Act} {xs ys ds es : List Nat} {listed : Array Bool} {a : Act} {w : World}
theorem step0 (hsz : listed.size = 10) (h : J3 w1 a0 xs ys ds es listed a w) : J3 w1 a0 xs ys ds es (listed.setIfInBounds 0 true) (a.put (some 17) (.agg (xs.map u64).toArray)) w :=
  { size := by rw [size_put]; exact h.size,
      defers := h.defers,
      rest := fun t ht => by rw [getD_put a 17 _ _ (by rw [h.size]; decide), if_neg (fun e => ht (by rw [e]; decide))]; exact h.rest t ht,
      bel := h.bel,
      s17 := fun _ => by rw [getD_put a 17 _ _ (by rw [h.size]; decide), if_pos rfl],
      s18 := fun h1 => by rw [set_ne (i := 0) (k := 1) hsz (by decide) (by decide)] at h1; exact (by rw [getD_put a 17 _ _ (by rw [h.size]; decide), if_neg (by decide)]; exact h.s18 h1),
      s19 := fun h1 => by rw [set_ne (i := 0) (k := 2) hsz (by decide) (by decide)] at h1; exact (by rw [getD_put a 17 _ _ (by rw [h.size]; decide), if_neg (by decide)]; exact h.s19 h1),
      s20 := fun h1 => by rw [set_ne (i := 0) (k := 3) hsz (by decide) (by decide)] at h1; exact (by rw [getD_put a 17 _ _ (by rw [h.size]; decide), if_neg (by decide)]; exact h.s20 h1),
      s21 := fun h1 => by rw [set_ne (i := 0) (k := 4) hsz (by decide) (by decide)] at h1; exact (by rw [getD_put a 17 _ _ (by rw [h.size]; decide), if_neg (by decide)]; exact h.s21 h1),
      s22 := fun h1 => by rw [set_ne (i := 0) (k := 5) hsz (by decide) (by decide)] at h1; exact (by rw [getD_put a 17 _ _ (by rw [h.size]; decide), if_neg (by decide)]; exact h.s22 h1),
      s5 := fun h1 => by
        rw [set_ne (i := 0) (k := 6) hsz (by decide) (by decide)] at h1; obtain ⟨g, cs, e, hge, hg, hcs, hX⟩ := h.s5 h1
        exact ⟨g, cs, (by rw [getD_put a 17 _ _ (by rw [h.size]; decide), if_neg (by decide)]; exact e), hge, hg, hcs, fun h8 => hX (by rw [set_ne (i := 0) (k := 8) hsz (by decide) (by decide)] at h8; exact h8)⟩,
      s6 := fun h1 => by
        rw [set_ne (i := 0) (k := 7) hsz (by decide) (by decide)] at h1; obtain ⟨g, cs, e, hge, hg, hcs, hX⟩ := h.s6 h1
        exact ⟨g, cs, (by rw [getD_put a 17 _ _ (by rw [h.size]; decide), if_neg (by decide)]; exact e), hge, hg, hcs, fun h8 => hX (by rw [set_ne (i := 0) (k := 9) hsz (by decide) (by decide)] at h8; exact h8)⟩,
      ne := fun h1 h2 => by rw [set_ne (i := 0) (k := 6) hsz (by decide) (by decide)] at h1; rw [set_ne (i := 0) (k := 7) hsz (by decide) (by decide)] at h2; rw [getD_put a 17 _ _ (by rw [h.size]; decide), if_neg (by decide), getD_put a 17 _ _ (by rw [h.size]; decide), if_neg (by decide)]; exact h.ne h1 h2,
      c8 := fun h1 => by rw [set_ne (i := 0) (k := 6) hsz (by decide) (by decide)]; rw [set_ne (i := 0) (k := 8) hsz (by decide) (by decide)] at h1; exact h.c8 h1,
      c9 := fun h1 => by rw [set_ne (i := 0) (k := 7) hsz (by decide) (by decide)]; rw [set_ne (i := 0) (k := 9) hsz (by decide) (by decide)] at h1; exact h.c9 h1 }
theorem step1 (hsz : listed.size = 10) (h : J3 w1 a0 xs ys ds es listed a w) : J3 w1 a0 xs ys ds es (listed.setIfInBounds 1 true) (a.put (some 18) (.agg (ys.map u64).toArray)) w :=
  { size := by rw [size_put]; exact h.size,
      defers := h.defers,
      rest := fun t ht => by rw [getD_put a 18 _ _ (by rw [h.size]; decide), if_neg (fun e => ht (by rw [e]; decide))]; exact h.rest t ht,
      bel := h.bel,
      s17 := fun h1 => by rw [set_ne (i := 1) (k := 0) hsz (by decide) (by decide)] at h1; exact (by rw [getD_put a 18 _ _ (by rw [h.size]; decide), if_neg (by decide)]; exact h.s17 h1),
      s18 := fun _ => by rw [getD_put a 18 _ _ (by rw [h.size]; decide), if_pos rfl],
      s19 := fun h1 => by rw [set_ne (i := 1) (k := 2) hsz (by decide) (by decide)] at h1; exact (by rw [getD_put a 18 _ _ (by rw [h.size]; decide), if_neg (by decide)]; exact h.s19 h1),
      s20 := fun h1 => by rw [set_ne (i := 1) (k := 3) hsz (by decide) (by decide)] at h1; exact (by rw [getD_put a 18 _ _ (by rw [h.size]; decide), if_neg (by decide)]; exact h.s20 h1),
      s21 := fun h1 => by rw [set_ne (i := 1) (k := 4) hsz (by decide) (by decide)] at h1; exact (by rw [getD_put a 18 _ _ (by rw [h.size]; decide), if_neg (by decide)]; exact h.s21 h1),
      s22 := fun h1 => by rw [set_ne (i := 1) (k := 5) hsz (by decide) (by decide)] at h1; exact (by rw [getD_put a 18 _ _ (by rw [h.size]; decide), if_neg (by decide)]; exact h.s22 h1),
      s5 := fun h1 => by
        rw [set_ne (i := 1) (k := 6) hsz (by decide) (by decide)] at h1; obtain ⟨g, cs, e, hge, hg, hcs, hX⟩ := h.s5 h1
        exact ⟨g, cs, (by rw [getD_put a 18 _ _ (by rw [h.size]; decide), if_neg (by decide)]; exact e), hge, hg, hcs, fun h8 => hX (by rw [set_ne (i := 1) (k := 8) hsz (by decide) (by decide)] at h8; exact h8)⟩,
      s6 := fun h1 => by
        rw [set_ne (i := 1) (k := 7) hsz (by decide) (by decide)] at h1; obtain ⟨g, cs, e, hge, hg, hcs, hX⟩ := h.s6 h1
        exact ⟨g, cs, (by rw [getD_put a 18 _ _ (by rw [h.size]; decide), if_neg (by decide)]; exact e), hge, hg, hcs, fun h8 => hX (by rw [set_ne (i := 1) (k := 9) hsz (by decide) (by decide)] at h8; exact h8)⟩,
      ne := fun h1 h2 => by rw [set_ne (i := 1) (k := 6) hsz (by decide) (by decide)] at h1; rw [set_ne (i := 1) (k := 7) hsz (by decide) (by decide)] at h2; rw [getD_put a 18 _ _ (by rw [h.size]; decide), if_neg (by decide), getD_put a 18 _ _ (by rw [h.size]; decide), if_neg (by decide)]; exact h.ne h1 h2,
      c8 := fun h1 => by rw [set_ne (i := 1) (k := 6) hsz (by decide) (by decide)]; rw [set_ne (i := 1) (k := 8) hsz (by decide) (by decide)] at h1; exact h.c8 h1,
      c9 := fun h1 => by rw [set_ne (i := 1) (k := 7) hsz (by decide) (by decide)]; rw [set_ne (i := 1) (k := 9) hsz (by decide) (by decide)] at h1; exact h.c9 h1 }
theorem step2 (hsz : listed.size = 10) (h : J3 w1 a0 xs ys ds es listed a w) {w' : World} (hb : Below w.heap.size w w') : J3 w1 a0 xs ys ds es (listed.setIfInBounds 2 true) (a.put (some 19) (.agg (ds.map u64).toArray)) w' :=
  { size := by rw [size_put]; exact h.size,
      defers := h.defers,
      rest := fun t ht => by rw [getD_put a 19 _ _ (by rw [h.size]; decide), if_neg (fun e => ht (by rw [e]; decide))]; exact h.rest t ht,
      bel := below_next h.bel hb,
      s17 := fun h1 => by rw [set_ne (i := 2) (k := 0) hsz (by decide) (by decide)] at h1; exact (by rw [getD_put a 19 _ _ (by rw [h.size]; decide), if_neg (by decide)]; exact h.s17 h1),
      s18 := fun h1 => by rw [set_ne (i := 2) (k := 1) hsz (by decide) (by decide)] at h1; exact (by rw [getD_put a 19 _ _ (by rw [h.size]; decide), if_neg (by decide)]; exact h.s18 h1),
      s19 := fun _ => by rw [getD_put a 19 _ _ (by rw [h.size]; decide), if_pos rfl],
      s20 := fun h1 => by rw [set_ne (i := 2) (k := 3) hsz (by decide) (by decide)] at h1; exact (by rw [getD_put a 19 _ _ (by rw [h.size]; decide), if_neg (by decide)]; exact h.s20 h1),
      s21 := fun h1 => by rw [set_ne (i := 2) (k := 4) hsz (by decide) (by decide)] at h1; exact (by rw [getD_put a 19 _ _ (by rw [h.size]; decide), if_neg (by decide)]; exact h.s21 h1),
      s22 := fun h1 => by rw [set_ne (i := 2) (k := 5) hsz (by decide) (by decide)] at h1; exact (by rw [getD_put a 19 _ _ (by rw [h.size]; decide), if_neg (by decide)]; exact h.s22 h1),
      s5 := fun h1 => by
        rw [set_ne (i := 2) (k := 6) hsz (by decide) (by decide)] at h1; obtain ⟨g, cs, e, hge, hg, hcs, hX⟩ := h.s5 h1
        exact ⟨g, cs, (by rw [getD_put a 19 _ _ (by rw [h.size]; decide), if_neg (by decide)]; exact e), hge, has_next hb hg, hcs, fun h8 => hX (by rw [set_ne (i := 2) (k := 8) hsz (by decide) (by decide)] at h8; exact h8)⟩,
      s6 := fun h1 => by
        rw [set_ne (i := 2) (k := 7) hsz (by decide) (by decide)] at h1; obtain ⟨g, cs, e, hge, hg, hcs, hX⟩ := h.s6 h1
        exact ⟨g, cs, (by rw [getD_put a 19 _ _ (by rw [h.size]; decide), if_neg (by decide)]; exact e), hge, has_next hb hg, hcs, fun h8 => hX (by rw [set_ne (i := 2) (k := 9) hsz (by decide) (by decide)] at h8; exact h8)⟩,
      ne := fun h1 h2 => by rw [set_ne (i := 2) (k := 6) hsz (by decide) (by decide)] at h1; rw [set_ne (i := 2) (k := 7) hsz (by decide) (by decide)] at h2; rw [getD_put a 19 _ _ (by rw [h.size]; decide), if_neg (by decide), getD_put a 19 _ _ (by rw [h.size]; decide), if_neg (by decide)]; exact h.ne h1 h2,
      c8 := fun h1 => by rw [set_ne (i := 2) (k := 6) hsz (by decide) (by decide)]; rw [set_ne (i := 2) (k := 8) hsz (by decide) (by decide)] at h1; exact h.c8 h1,
      c9 := fun h1 => by rw [set_ne (i := 2) (k := 7) hsz (by decide) (by decide)]; rw [set_ne (i := 2) (k := 9) hsz (by decide) (by decide)] at h1; exact h.c9 h1 }
theorem step3 (hsz : listed.size = 10) (h : J3 w1 a0 xs ys ds es listed a w) : J3 w1 a0 xs ys ds es (listed.setIfInBounds 3 true) (a.put (some 20) (.agg (ys.map u64).toArray)) w :=
  { size := by rw [size_put]; exact h.size,
      defers := h.defers,
      rest := fun t ht => by rw [getD_put a 20 _ _ (by rw [h.size]; decide), if_neg (fun e => ht (by rw [e]; decide))]; exact h.rest t ht,
      bel := h.bel,
      s17 := fun h1 => by rw [set_ne (i := 3) (k := 0) hsz (by decide) (by decide)] at h1; exact (by rw [getD_put a 20 _ _ (by rw [h.size]; decide), if_neg (by decide)]; exact h.s17 h1),
      s18 := fun h1 => by rw [set_ne (i := 3) (k := 1) hsz (by decide) (by decide)] at h1; exact (by rw [getD_put a 20 _ _ (by rw [h.size]; decide), if_neg (by decide)]; exact h.s18 h1),
      s19 := fun h1 => by rw [set_ne (i := 3) (k := 2) hsz (by decide) (by decide)] at h1; exact (by rw [getD_put a 20 _ _ (by rw [h.size]; decide), if_neg (by decide)]; exact h.s19 h1),
      s20 := fun _ => by rw [getD_put a 20 _ _ (by rw [h.size]; decide), if_pos rfl],
      s21 := fun h1 => by rw [set_ne (i := 3) (k := 4) hsz (by decide) (by decide)] at h1; exact (by rw [getD_put a 20 _ _ (by rw [h.size]; decide), if_neg (by decide)]; exact h.s21 h1),
      s22 := fun h1 => by rw [set_ne (i := 3) (k := 5) hsz (by decide) (by decide)] at h1; exact (by rw [getD_put a 20 _ _ (by rw [h.size]; decide), if_neg (by decide)]; exact h.s22 h1),
      s5 := fun h1 => by
        rw [set_ne (i := 3) (k := 6) hsz (by decide) (by decide)] at h1; obtain ⟨g, cs, e, hge, hg, hcs, hX⟩ := h.s5 h1
        exact ⟨g, cs, (by rw [getD_put a 20 _ _ (by rw [h.size]; decide), if_neg (by decide)]; exact e), hge, hg, hcs, fun h8 => hX (by rw [set_ne (i := 3) (k := 8) hsz (by decide) (by decide)] at h8; exact h8)⟩,
      s6 := fun h1 => by
        rw [set_ne (i := 3) (k := 7) hsz (by decide) (by decide)] at h1; obtain ⟨g, cs, e, hge, hg, hcs, hX⟩ := h.s6 h1
        exact ⟨g, cs, (by rw [getD_put a 20 _ _ (by rw [h.size]; decide), if_neg (by decide)]; exact e), hge, hg, hcs, fun h8 => hX (by rw [set_ne (i := 3) (k := 9) hsz (by decide) (by decide)] at h8; exact h8)⟩,
      ne := fun h1 h2 => by rw [set_ne (i := 3) (k := 6) hsz (by decide) (by decide)] at h1; rw [set_ne (i := 3) (k := 7) hsz (by decide) (by decide)] at h2; rw [getD_put a 20 _ _ (by rw [h.size]; decide), if_neg (by decide), getD_put a 20 _ _ (by rw [h.size]; decide), if_neg (by decide)]; exact h.ne h1 h2,
      c8 := fun h1 => by rw [set_ne (i := 3) (k := 6) hsz (by decide) (by decide)]; rw [set_ne (i := 3) (k := 8) hsz (by decide) (by decide)] at h1; exact h.c8 h1,
      c9 := fun h1 => by rw [set_ne (i := 3) (k := 7) hsz (by decide) (by decide)]; rw [set_ne (i := 3) (k := 9) hsz (by decide) (by decide)] at h1; exact h.c9 h1 }
theorem step4 (hsz : listed.size = 10) (h : J3 w1 a0 xs ys ds es listed a w) : J3 w1 a0 xs ys ds es (listed.setIfInBounds 4 true) (a.put (some 21) (.agg (xs.map u64).toArray)) w :=
  { size := by rw [size_put]; exact h.size,
      defers := h.defers,
      rest := fun t ht => by rw [getD_put a 21 _ _ (by rw [h.size]; decide), if_neg (fun e => ht (by rw [e]; decide))]; exact h.rest t ht,
      bel := h.bel,
      s17 := fun h1 => by rw [set_ne (i := 4) (k := 0) hsz (by decide) (by decide)] at h1; exact (by rw [getD_put a 21 _ _ (by rw [h.size]; decide), if_neg (by decide)]; exact h.s17 h1),
      s18 := fun h1 => by rw [set_ne (i := 4) (k := 1) hsz (by decide) (by decide)] at h1; exact (by rw [getD_put a 21 _ _ (by rw [h.size]; decide), if_neg (by decide)]; exact h.s18 h1),
      s19 := fun h1 => by rw [set_ne (i := 4) (k := 2) hsz (by decide) (by decide)] at h1; exact (by rw [getD_put a 21 _ _ (by rw [h.size]; decide), if_neg (by decide)]; exact h.s19 h1),
      s20 := fun h1 => by rw [set_ne (i := 4) (k := 3) hsz (by decide) (by decide)] at h1; exact (by rw [getD_put a 21 _ _ (by rw [h.size]; decide), if_neg (by decide)]; exact h.s20 h1),
      s21 := fun _ => by rw [getD_put a 21 _ _ (by rw [h.size]; decide), if_pos rfl],
      s22 := fun h1 => by rw [set_ne (i := 4) (k := 5) hsz (by decide) (by decide)] at h1; exact (by rw [getD_put a 21 _ _ (by rw [h.size]; decide), if_neg (by decide)]; exact h.s22 h1),
      s5 := fun h1 => by
        rw [set_ne (i := 4) (k := 6) hsz (by decide) (by decide)] at h1; obtain ⟨g, cs, e, hge, hg, hcs, hX⟩ := h.s5 h1
        exact ⟨g, cs, (by rw [getD_put a 21 _ _ (by rw [h.size]; decide), if_neg (by decide)]; exact e), hge, hg, hcs, fun h8 => hX (by rw [set_ne (i := 4) (k := 8) hsz (by decide) (by decide)] at h8; exact h8)⟩,
      s6 := fun h1 => by
        rw [set_ne (i := 4) (k := 7) hsz (by decide) (by decide)] at h1; obtain ⟨g, cs, e, hge, hg, hcs, hX⟩ := h.s6 h1
        exact ⟨g, cs, (by rw [getD_put a 21 _ _ (by rw [h.size]; decide), if_neg (by decide)]; exact e), hge, hg, hcs, fun h8 => hX (by rw [set_ne (i := 4) (k := 9) hsz (by decide) (by decide)] at h8; exact h8)⟩,
      ne := fun h1 h2 => by rw [set_ne (i := 4) (k := 6) hsz (by decide) (by decide)] at h1; rw [set_ne (i := 4) (k := 7) hsz (by decide) (by decide)] at h2; rw [getD_put a 21 _ _ (by rw [h.size]; decide), if_neg (by decide), getD_put a 21 _ _ (by rw [h.size]; decide), if_neg (by decide)]; exact h.ne h1 h2,
      c8 := fun h1 => by rw [set_ne (i := 4) (k := 6) hsz (by decide) (by decide)]; rw [set_ne (i := 4) (k := 8) hsz (by decide) (by decide)] at h1; exact h.c8 h1,
      c9 := fun h1 => by rw [set_ne (i := 4) (k := 7) hsz (by decide) (by decide)]; rw [set_ne (i := 4) (k := 9) hsz (by decide) (by decide)] at h1; exact h.c9 h1 }
theorem step5 (hsz : listed.size = 10) (h : J3 w1 a0 xs ys ds es listed a w) {w' : World} (hb : Below w.heap.size w w') : J3 w1 a0 xs ys ds es (listed.setIfInBounds 5 true) (a.put (some 22) (.agg (es.map u64).toArray)) w' :=
  { size := by rw [size_put]; exact h.size,
      defers := h.defers,
      rest := fun t ht => by rw [getD_put a 22 _ _ (by rw [h.size]; decide), if_neg (fun e => ht (by rw [e]; decide))]; exact h.rest t ht,
      bel := below_next h.bel hb,
      s17 := fun h1 => by rw [set_ne (i := 5) (k := 0) hsz (by decide) (by decide)] at h1; exact (by rw [getD_put a 22 _ _ (by rw [h.size]; decide), if_neg (by decide)]; exact h.s17 h1),
      s18 := fun h1 => by rw [set_ne (i := 5) (k := 1) hsz (by decide) (by decide)] at h1; exact (by rw [getD_put a 22 _ _ (by rw [h.size]; decide), if_neg (by decide)]; exact h.s18 h1),
      s19 := fun h1 => by rw [set_ne (i := 5) (k := 2) hsz (by decide) (by decide)] at h1; exact (by rw [getD_put a 22 _ _ (by rw [h.size]; decide), if_neg (by decide)]; exact h.s19 h1),
      s20 := fun h1 => by rw [set_ne (i := 5) (k := 3) hsz (by decide) (by decide)] at h1; exact (by rw [getD_put a 22 _ _ (by rw [h.size]; decide), if_neg (by decide)]; exact h.s20 h1),
      s21 := fun h1 => by rw [set_ne (i := 5) (k := 4) hsz (by decide) (by decide)] at h1; exact (by rw [getD_put a 22 _ _ (by rw [h.size]; decide), if_neg (by decide)]; exact h.s21 h1),
      s22 := fun _ => by rw [getD_put a 22 _ _ (by rw [h.size]; decide), if_pos rfl],
      s5 := fun h1 => by
        rw [set_ne (i := 5) (k := 6) hsz (by decide) (by decide)] at h1; obtain ⟨g, cs, e, hge, hg, hcs, hX⟩ := h.s5 h1
        exact ⟨g, cs, (by rw [getD_put a 22 _ _ (by rw [h.size]; decide), if_neg (by decide)]; exact e), hge, has_next hb hg, hcs, fun h8 => hX (by rw [set_ne (i := 5) (k := 8) hsz (by decide) (by decide)] at h8; exact h8)⟩,
      s6 := fun h1 => by
        rw [set_ne (i := 5) (k := 7) hsz (by decide) (by decide)] at h1; obtain ⟨g, cs, e, hge, hg, hcs, hX⟩ := h.s6 h1
        exact ⟨g, cs, (by rw [getD_put a 22 _ _ (by rw [h.size]; decide), if_neg (by decide)]; exact e), hge, has_next hb hg, hcs, fun h8 => hX (by rw [set_ne (i := 5) (k := 9) hsz (by decide) (by decide)] at h8; exact h8)⟩,
      ne := fun h1 h2 => by rw [set_ne (i := 5) (k := 6) hsz (by decide) (by decide)] at h1; rw [set_ne (i := 5) (k := 7) hsz (by decide) (by decide)] at h2; rw [getD_put a 22 _ _ (by rw [h.size]; decide), if_neg (by decide), getD_put a 22 _ _ (by rw [h.size]; decide), if_neg (by decide)]; exact h.ne h1 h2,
      c8 := fun h1 => by rw [set_ne (i := 5) (k := 6) hsz (by decide) (by decide)]; rw [set_ne (i := 5) (k := 8) hsz (by decide) (by decide)] at h1; exact h.c8 h1,
      c9 := fun h1 => by rw [set_ne (i := 5) (k := 7) hsz (by decide) (by decide)]; rw [set_ne (i := 5) (k := 9) hsz (by decide) (by decide)] at h1; exact h.c9 h1 }
theorem step6 (hsz : listed.size = 10) (h : J3 w1 a0 xs ys ds es listed a w) (hu : listed.getD 6 false = false) : J3 w1 a0 xs ys ds es (listed.setIfInBounds 6 true) (a.put (some 5) (.pointer (some ⟨w.heap.size, 0, none⟩))) (w.alloc (.cells #[.int .u64 0, .int .u64 0, .int .u64 0, .int .u64 0, .int .u64 0, .int .u64 0, .int .u64 0, .int .u64 0, .int .u64 0] 23)) :=
  { size := by rw [size_put]; exact h.size,
      defers := h.defers,
      rest := fun t ht => by rw [getD_put a 5 _ _ (by rw [h.size]; decide), if_neg (fun e => ht (by rw [e]; decide))]; exact h.rest t ht,
      bel := below_new h.bel _,
      s17 := fun h1 => by rw [set_ne (i := 6) (k := 0) hsz (by decide) (by decide)] at h1; exact (by rw [getD_put a 5 _ _ (by rw [h.size]; decide), if_neg (by decide)]; exact h.s17 h1),
      s18 := fun h1 => by rw [set_ne (i := 6) (k := 1) hsz (by decide) (by decide)] at h1; exact (by rw [getD_put a 5 _ _ (by rw [h.size]; decide), if_neg (by decide)]; exact h.s18 h1),
      s19 := fun h1 => by rw [set_ne (i := 6) (k := 2) hsz (by decide) (by decide)] at h1; exact (by rw [getD_put a 5 _ _ (by rw [h.size]; decide), if_neg (by decide)]; exact h.s19 h1),
      s20 := fun h1 => by rw [set_ne (i := 6) (k := 3) hsz (by decide) (by decide)] at h1; exact (by rw [getD_put a 5 _ _ (by rw [h.size]; decide), if_neg (by decide)]; exact h.s20 h1),
      s21 := fun h1 => by rw [set_ne (i := 6) (k := 4) hsz (by decide) (by decide)] at h1; exact (by rw [getD_put a 5 _ _ (by rw [h.size]; decide), if_neg (by decide)]; exact h.s21 h1),
      s22 := fun h1 => by rw [set_ne (i := 6) (k := 5) hsz (by decide) (by decide)] at h1; exact (by rw [getD_put a 5 _ _ (by rw [h.size]; decide), if_neg (by decide)]; exact h.s22 h1),
      s5 := fun _ => ⟨w.heap.size, #[.int .u64 0, .int .u64 0, .int .u64 0, .int .u64 0, .int .u64 0, .int .u64 0, .int .u64 0, .int .u64 0, .int .u64 0], by rw [getD_put a 5 _ _ (by rw [h.size]; decide), if_pos rfl], h.bel.size, has_new rfl, rfl, fun h8 => by rw [set_ne (i := 6) (k := 8) hsz (by decide) (by decide)] at h8; have := h.c8 h8; rw [hu] at this; cases this⟩,
      s6 := fun h1 => by
        rw [set_ne (i := 6) (k := 7) hsz (by decide) (by decide)] at h1; obtain ⟨g, cs, e, hge, hg, hcs, hX⟩ := h.s6 h1
        exact ⟨g, cs, (by rw [getD_put a 5 _ _ (by rw [h.size]; decide), if_neg (by decide)]; exact e), hge, has_old hg, hcs, fun h8 => hX (by rw [set_ne (i := 6) (k := 9) hsz (by decide) (by decide)] at h8; exact h8)⟩,
      ne := fun h1 h2 => by
        rw [set_ne (i := 6) (k := 7) hsz (by decide) (by decide)] at h2; obtain ⟨g, cs, e, hge, hg, hcs, hX⟩ := h.s6 h2
        have hlt := size_of hg
        rw [getD_put a 5 _ _ (by rw [h.size]; decide), if_pos rfl, getD_put a 5 _ _ (by rw [h.size]; decide), if_neg (by decide), e]
        intro h3
        simp only [Value.pointer.injEq, Option.some.injEq, Addr.mk.injEq] at h3
        omega,
      c8 := fun _ => by rw [getD_set _ _ _ (by rw [hsz]; decide), if_pos rfl],
      c9 := fun h1 => by rw [set_ne (i := 6) (k := 7) hsz (by decide) (by decide)]; rw [set_ne (i := 6) (k := 9) hsz (by decide) (by decide)] at h1; exact h.c9 h1 }
theorem step7 (hsz : listed.size = 10) (h : J3 w1 a0 xs ys ds es listed a w) (hu : listed.getD 7 false = false) : J3 w1 a0 xs ys ds es (listed.setIfInBounds 7 true) (a.put (some 6) (.pointer (some ⟨w.heap.size, 0, none⟩))) (w.alloc (.cells #[.int .u64 0, .int .u64 0, .int .u64 0, .int .u64 0, .int .u64 0, .int .u64 0, .int .u64 0, .int .u64 0, .int .u64 0] 23)) :=
  { size := by rw [size_put]; exact h.size,
      defers := h.defers,
      rest := fun t ht => by rw [getD_put a 6 _ _ (by rw [h.size]; decide), if_neg (fun e => ht (by rw [e]; decide))]; exact h.rest t ht,
      bel := below_new h.bel _,
      s17 := fun h1 => by rw [set_ne (i := 7) (k := 0) hsz (by decide) (by decide)] at h1; exact (by rw [getD_put a 6 _ _ (by rw [h.size]; decide), if_neg (by decide)]; exact h.s17 h1),
      s18 := fun h1 => by rw [set_ne (i := 7) (k := 1) hsz (by decide) (by decide)] at h1; exact (by rw [getD_put a 6 _ _ (by rw [h.size]; decide), if_neg (by decide)]; exact h.s18 h1),
      s19 := fun h1 => by rw [set_ne (i := 7) (k := 2) hsz (by decide) (by decide)] at h1; exact (by rw [getD_put a 6 _ _ (by rw [h.size]; decide), if_neg (by decide)]; exact h.s19 h1),
      s20 := fun h1 => by rw [set_ne (i := 7) (k := 3) hsz (by decide) (by decide)] at h1; exact (by rw [getD_put a 6 _ _ (by rw [h.size]; decide), if_neg (by decide)]; exact h.s20 h1),
      s21 := fun h1 => by rw [set_ne (i := 7) (k := 4) hsz (by decide) (by decide)] at h1; exact (by rw [getD_put a 6 _ _ (by rw [h.size]; decide), if_neg (by decide)]; exact h.s21 h1),
      s22 := fun h1 => by rw [set_ne (i := 7) (k := 5) hsz (by decide) (by decide)] at h1; exact (by rw [getD_put a 6 _ _ (by rw [h.size]; decide), if_neg (by decide)]; exact h.s22 h1),
      s5 := fun h1 => by
        rw [set_ne (i := 7) (k := 6) hsz (by decide) (by decide)] at h1; obtain ⟨g, cs, e, hge, hg, hcs, hX⟩ := h.s5 h1
        exact ⟨g, cs, (by rw [getD_put a 6 _ _ (by rw [h.size]; decide), if_neg (by decide)]; exact e), hge, has_old hg, hcs, fun h8 => hX (by rw [set_ne (i := 7) (k := 8) hsz (by decide) (by decide)] at h8; exact h8)⟩,
      s6 := fun _ => ⟨w.heap.size, #[.int .u64 0, .int .u64 0, .int .u64 0, .int .u64 0, .int .u64 0, .int .u64 0, .int .u64 0, .int .u64 0, .int .u64 0], by rw [getD_put a 6 _ _ (by rw [h.size]; decide), if_pos rfl], h.bel.size, has_new rfl, rfl, fun h8 => by rw [set_ne (i := 7) (k := 9) hsz (by decide) (by decide)] at h8; have := h.c9 h8; rw [hu] at this; cases this⟩,
      ne := fun h1 h2 => by
        rw [set_ne (i := 7) (k := 6) hsz (by decide) (by decide)] at h1; obtain ⟨g, cs, e, hge, hg, hcs, hX⟩ := h.s5 h1
        have hlt := size_of hg
        rw [getD_put a 6 _ _ (by rw [h.size]; decide), if_neg (by decide), getD_put a 6 _ _ (by rw [h.size]; decide), if_pos rfl, e]
        intro h3
        simp only [Value.pointer.injEq, Option.some.injEq, Addr.mk.injEq] at h3
        omega,
      c8 := fun h1 => by rw [set_ne (i := 7) (k := 6) hsz (by decide) (by decide)]; rw [set_ne (i := 7) (k := 8) hsz (by decide) (by decide)] at h1; exact h.c8 h1,
      c9 := fun _ => by rw [getD_set _ _ _ (by rw [hsz]; decide), if_pos rfl] }
theorem step8 (hsz : listed.size = 10) (h : J3 w1 a0 xs ys ds es listed a w) (hdep : listed.getD 6 false = true) {gg : Nat} {cs : Array Value} (eg : a.tmps.getD 5 undef = .pointer (some ⟨gg, 0, none⟩)) (hg1 : w1.heap.size ≤ gg) (hgg : w.heap[gg]? = some (.cells cs 23 (0, 0))) (hsv : ((ds.map u64).toArray).size = 9) (hdiff : a.tmps.getD 5 undef ≠ a.tmps.getD 6 undef) : J3 w1 a0 xs ys ds es (listed.setIfInBounds 8 true) a (w.setRow gg (ds.map u64).toArray) :=
  { size := by exact h.size,
      defers := h.defers,
      rest := h.rest,
      bel := below_setRow h.bel hg1 _,
      s17 := fun h1 => by rw [set_ne (i := 8) (k := 0) hsz (by decide) (by decide)] at h1; exact h.s17 h1,
      s18 := fun h1 => by rw [set_ne (i := 8) (k := 1) hsz (by decide) (by decide)] at h1; exact h.s18 h1,
      s19 := fun h1 => by rw [set_ne (i := 8) (k := 2) hsz (by decide) (by decide)] at h1; exact h.s19 h1,
      s20 := fun h1 => by rw [set_ne (i := 8) (k := 3) hsz (by decide) (by decide)] at h1; exact h.s20 h1,
      s21 := fun h1 => by rw [set_ne (i := 8) (k := 4) hsz (by decide) (by decide)] at h1; exact h.s21 h1,
      s22 := fun h1 => by rw [set_ne (i := 8) (k := 5) hsz (by decide) (by decide)] at h1; exact h.s22 h1,
      s5 := fun h1 => ⟨gg, (ds.map u64).toArray, eg, hg1, setRow_heap _ _ _ _ _ _ hgg, hsv, fun _ => rfl⟩,
      s6 := fun h1 => by
        rw [set_ne (i := 8) (k := 7) hsz (by decide) (by decide)] at h1; obtain ⟨g, cs, e, hge, hg, hcs, hX⟩ := h.s6 h1
        exact ⟨g, cs, e, hge, by rw [setRow_other _ _ _ _ (fun e' => hdiff (by rw [eg, e, e']))]; exact hg, hcs, fun h8 => hX (by rw [set_ne (i := 8) (k := 9) hsz (by decide) (by decide)] at h8; exact h8)⟩,
      ne := fun h1 h2 => by rw [set_ne (i := 8) (k := 6) hsz (by decide) (by decide)] at h1; rw [set_ne (i := 8) (k := 7) hsz (by decide) (by decide)] at h2; exact h.ne h1 h2,
      c8 := fun _ => by rw [set_ne (i := 8) (k := 6) hsz (by decide) (by decide)]; exact hdep,
      c9 := fun h1 => by rw [set_ne (i := 8) (k := 7) hsz (by decide) (by decide)]; rw [set_ne (i := 8) (k := 9) hsz (by decide) (by decide)] at h1; exact h.c9 h1 }
theorem step9 (hsz : listed.size = 10) (h : J3 w1 a0 xs ys ds es listed a w) (hdep : listed.getD 7 false = true) {gg : Nat} {cs : Array Value} (eg : a.tmps.getD 6 undef = .pointer (some ⟨gg, 0, none⟩)) (hg1 : w1.heap.size ≤ gg) (hgg : w.heap[gg]? = some (.cells cs 23 (0, 0))) (hsv : ((es.map u64).toArray).size = 9) (hdiff : a.tmps.getD 6 undef ≠ a.tmps.getD 5 undef) : J3 w1 a0 xs ys ds es (listed.setIfInBounds 9 true) a (w.setRow gg (es.map u64).toArray) :=
  { size := by exact h.size,
      defers := h.defers,
      rest := h.rest,
      bel := below_setRow h.bel hg1 _,
      s17 := fun h1 => by rw [set_ne (i := 9) (k := 0) hsz (by decide) (by decide)] at h1; exact h.s17 h1,
      s18 := fun h1 => by rw [set_ne (i := 9) (k := 1) hsz (by decide) (by decide)] at h1; exact h.s18 h1,
      s19 := fun h1 => by rw [set_ne (i := 9) (k := 2) hsz (by decide) (by decide)] at h1; exact h.s19 h1,
      s20 := fun h1 => by rw [set_ne (i := 9) (k := 3) hsz (by decide) (by decide)] at h1; exact h.s20 h1,
      s21 := fun h1 => by rw [set_ne (i := 9) (k := 4) hsz (by decide) (by decide)] at h1; exact h.s21 h1,
      s22 := fun h1 => by rw [set_ne (i := 9) (k := 5) hsz (by decide) (by decide)] at h1; exact h.s22 h1,
      s5 := fun h1 => by
        rw [set_ne (i := 9) (k := 6) hsz (by decide) (by decide)] at h1; obtain ⟨g, cs, e, hge, hg, hcs, hX⟩ := h.s5 h1
        exact ⟨g, cs, e, hge, by rw [setRow_other _ _ _ _ (fun e' => hdiff (by rw [eg, e, e']))]; exact hg, hcs, fun h8 => hX (by rw [set_ne (i := 9) (k := 8) hsz (by decide) (by decide)] at h8; exact h8)⟩,
      s6 := fun h1 => ⟨gg, (es.map u64).toArray, eg, hg1, setRow_heap _ _ _ _ _ _ hgg, hsv, fun _ => rfl⟩,
      ne := fun h1 h2 => by rw [set_ne (i := 9) (k := 6) hsz (by decide) (by decide)] at h1; rw [set_ne (i := 9) (k := 7) hsz (by decide) (by decide)] at h2; exact h.ne h1 h2,
      c8 := fun h1 => by rw [set_ne (i := 9) (k := 6) hsz (by decide) (by decide)]; rw [set_ne (i := 9) (k := 8) hsz (by decide) (by decide)] at h1; exact h.c8 h1,
      c9 := fun _ => by rw [set_ne (i := 9) (k := 7) hsz (by decide) (by decide)]; exact hdep }
end

set_option maxHeartbeats 1000000 in
theorem walk1 (xs ys : List Nat) (lx : xs.length = 9) (ly : ys.length = 9) (wx : Ws xs) (wy : Ws ys) (px : decide (val xs < prime) = true) (py : decide (val ys < prime) = false) (w : World) :
    Calls Try.prog 6 #[(.agg (xs.map u64).toArray), (.agg (ys.map u64).toArray)] w fun e w' => e = .returned (.bool true) ∧ Below w.heap.size w w' := by
  go_enter Try.func6, Try.ntmps6
  go_upto_region 1 with fail
  refine wp_region_vals (by kernel_rfl) (by kernel_rfl) [7, 8, 9, 10, 11, 12, 13, 14, 15, 16] [.is (.slice (some ⟨w.heap.size, 0, none⟩) 9 9), .words pwords, .is (.bool true), .is (.bool false), .is (.bool false), .is (.slice (some ⟨(w.heap.size + 1), 0, none⟩) 9 9), .words pwords, .is (.bool false), .is (.bool true), .is (.bool true)] (by kernel_rfl) (by decide) (by kernel_rfl) ?hs1 ?hq1
  case hs1 =>
    intro i hi a' w' hb hr hv
    match i, hi with
    | 0, _ => exact slice_w (gd_none rfl) rfl ((hr 2 (by decide)).trans rfl)
    | 1, _ => exact prime_w (gd_none rfl) rfl
    | 2, _ => exact less_w lx wx px (gd_none rfl) rfl (hv 0 rfl) (hv 1 rfl) (has_next hb (has_old (has_new rfl)))
    | 3, _ => exact does_not (gd_none rfl) rfl (hv 2 rfl) rfl
    | 4, _ => exact does_move (gd_none rfl) rfl (hv 3 rfl)
    | 5, _ => exact slice_w (gd_some rfl rfl (hv 4 rfl) rfl) rfl ((hr 3 (by decide)).trans rfl)
    | 6, _ => exact prime_w (gd_some rfl rfl (hv 4 rfl) rfl) rfl
    | 7, _ => exact less_w ly wy py (gd_some rfl rfl (hv 4 rfl) rfl) rfl (hv 5 rfl) (hv 6 rfl) (has_next hb (has_new (by simp)))
    | 8, _ => exact does_not (gd_some rfl rfl (hv 4 rfl) rfl) rfl (hv 7 rfl) rfl
    | 9, _ => exact does_pick (gd_none rfl) rfl (hv 4 rfl) (hv 8 rfl)
    | n + 10, h => exact absurd h (Nat.not_lt.2 (Nat.le_add_left _ _))
  intro a' w1 hsz hdf hbel1 hr hv
  obtain ⟨g1_1, t1_1, f1_1, e1, h1_1⟩ := hv 1 (by decide)
  obtain ⟨g1_6, t1_6, f1_6, e6, h1_6⟩ := hv 6 (by decide)
  have hput := puts_eta [(7, (.slice (some ⟨w.heap.size, 0, none⟩) 9 9)), (8, .slice (some ⟨g1_1, 0, none⟩) 9 9), (9, (.bool true)), (10, (.bool false)), (11, (.bool false)), (12, (.slice (some ⟨(w.heap.size + 1), 0, none⟩) 9 9)), (13, .slice (some ⟨g1_6, 0, none⟩) 9 9), (14, (.bool false)), (15, (.bool true)), (16, (.bool true))] hsz hdf (show List.Nodup [7, 8, 9, 10, 11, 12, 13, 14, 15, 16] by decide) (by kernel_rfl) hr (List.forall_mem_cons.2 ⟨hv 0 (by decide), List.forall_mem_cons.2 ⟨e1, List.forall_mem_cons.2 ⟨hv 2 (by decide), List.forall_mem_cons.2 ⟨hv 3 (by decide), List.forall_mem_cons.2 ⟨hv 4 (by decide), List.forall_mem_cons.2 ⟨hv 5 (by decide), List.forall_mem_cons.2 ⟨e6, List.forall_mem_cons.2 ⟨hv 7 (by decide), List.forall_mem_cons.2 ⟨hv 8 (by decide), List.forall_mem_cons.2 ⟨hv 9 (by decide), fun p hp => by cases hp⟩⟩⟩⟩⟩⟩⟩⟩⟩⟩)
  clear hr hv hsz hdf e1 h1_1 e6 h1_6
  subst hput
  simp only [puts, Act.put, List.foldl_cons, List.foldl_nil, List.setIfInBounds_toArray, List.set_cons_succ, List.set_cons_zero]
  go_wp2
  go_ret
  exact ⟨rfl, below_next (below_new (below_new (Below.refl _ _) _) _) hbel1⟩
set_option maxHeartbeats 1000000 in
theorem walk2 (xs ys : List Nat) (lx : xs.length = 9) (ly : ys.length = 9) (wx : Ws xs) (wy : Ws ys) (px : decide (val xs < prime) = false) (w : World) :
    Calls Try.prog 6 #[(.agg (xs.map u64).toArray), (.agg (ys.map u64).toArray)] w fun e w' => e = .returned (.bool true) ∧ Below w.heap.size w w' := by
  go_enter Try.func6, Try.ntmps6
  go_upto_region 1 with fail
  refine wp_region_vals (by kernel_rfl) (by kernel_rfl) [7, 8, 9, 10, 11, 12, 13, 14, 15, 16] [.is (.slice (some ⟨w.heap.size, 0, none⟩) 9 9), .words pwords, .is (.bool false), .is (.bool true), .is (.bool true), .is undef, .is undef, .is undef, .is undef, .is (.bool true)] (by kernel_rfl) (by decide) (by kernel_rfl) ?hs1 ?hq1
  case hs1 =>
    intro i hi a' w' hb hr hv
    match i, hi with
    | 0, _ => exact slice_w (gd_none rfl) rfl ((hr 2 (by decide)).trans rfl)
    | 1, _ => exact prime_w (gd_none rfl) rfl
    | 2, _ => exact less_w lx wx px (gd_none rfl) rfl (hv 0 rfl) (hv 1 rfl) (has_next hb (has_old (has_new rfl)))
    | 3, _ => exact does_not (gd_none rfl) rfl (hv 2 rfl) rfl
    | 4, _ => exact does_move (gd_none rfl) rfl (hv 3 rfl)
    | 5, _ => exact does_skip (gd_some rfl rfl (hv 4 rfl) rfl) rfl
    | 6, _ => exact does_skip (gd_some rfl rfl (hv 4 rfl) rfl) rfl
    | 7, _ => exact does_skip (gd_some rfl rfl (hv 4 rfl) rfl) rfl
    | 8, _ => exact does_skip (gd_some rfl rfl (hv 4 rfl) rfl) rfl
    | 9, _ => exact does_pick (gd_none rfl) rfl (hv 4 rfl) rfl
    | n + 10, h => exact absurd h (Nat.not_lt.2 (Nat.le_add_left _ _))
  intro a' w1 hsz hdf hbel1 hr hv
  obtain ⟨g1_1, t1_1, f1_1, e1, h1_1⟩ := hv 1 (by decide)
  have hput := puts_eta [(7, (.slice (some ⟨w.heap.size, 0, none⟩) 9 9)), (8, .slice (some ⟨g1_1, 0, none⟩) 9 9), (9, (.bool false)), (10, (.bool true)), (11, (.bool true)), (12, undef), (13, undef), (14, undef), (15, undef), (16, (.bool true))] hsz hdf (show List.Nodup [7, 8, 9, 10, 11, 12, 13, 14, 15, 16] by decide) (by kernel_rfl) hr (List.forall_mem_cons.2 ⟨hv 0 (by decide), List.forall_mem_cons.2 ⟨e1, List.forall_mem_cons.2 ⟨hv 2 (by decide), List.forall_mem_cons.2 ⟨hv 3 (by decide), List.forall_mem_cons.2 ⟨hv 4 (by decide), List.forall_mem_cons.2 ⟨hv 5 (by decide), List.forall_mem_cons.2 ⟨hv 6 (by decide), List.forall_mem_cons.2 ⟨hv 7 (by decide), List.forall_mem_cons.2 ⟨hv 8 (by decide), List.forall_mem_cons.2 ⟨hv 9 (by decide), fun p hp => by cases hp⟩⟩⟩⟩⟩⟩⟩⟩⟩⟩)
  clear hr hv hsz hdf e1 h1_1
  subst hput
  simp only [puts, Act.put, List.foldl_cons, List.foldl_nil, List.setIfInBounds_toArray, List.set_cons_succ, List.set_cons_zero]
  go_wp2
  go_ret
  exact ⟨rfl, below_next (below_new (below_new (Below.refl _ _) _) _) hbel1⟩
set_option maxHeartbeats 1000000 in
theorem walk0 (xs ys : List Nat) (lx : xs.length = 9) (ly : ys.length = 9) (wx : Ws xs) (wy : Ws ys) (px : decide (val xs < prime) = true) (py : decide (val ys < prime) = true) (w : World) :
    Calls Try.prog 6 #[(.agg (xs.map u64).toArray), (.agg (ys.map u64).toArray)] w fun e w' => e = .returned (.bool true) ∧ Below w.heap.size w w' := by
  go_enter Try.func6, Try.ntmps6
  go_upto_region 1 with fail
  refine wp_region_vals (by kernel_rfl) (by kernel_rfl) [7, 8, 9, 10, 11, 12, 13, 14, 15, 16] [.is (.slice (some ⟨w.heap.size, 0, none⟩) 9 9), .words pwords, .is (.bool true), .is (.bool false), .is (.bool false), .is (.slice (some ⟨(w.heap.size + 1), 0, none⟩) 9 9), .words pwords, .is (.bool true), .is (.bool false), .is (.bool false)] (by kernel_rfl) (by decide) (by kernel_rfl) ?hs1 ?hq1
  case hs1 =>
    intro i hi a' w' hb hr hv
    match i, hi with
    | 0, _ => exact slice_w (gd_none rfl) rfl ((hr 2 (by decide)).trans rfl)
    | 1, _ => exact prime_w (gd_none rfl) rfl
    | 2, _ => exact less_w lx wx px (gd_none rfl) rfl (hv 0 rfl) (hv 1 rfl) (has_next hb (has_old (has_new rfl)))
    | 3, _ => exact does_not (gd_none rfl) rfl (hv 2 rfl) rfl
    | 4, _ => exact does_move (gd_none rfl) rfl (hv 3 rfl)
    | 5, _ => exact slice_w (gd_some rfl rfl (hv 4 rfl) rfl) rfl ((hr 3 (by decide)).trans rfl)
    | 6, _ => exact prime_w (gd_some rfl rfl (hv 4 rfl) rfl) rfl
    | 7, _ => exact less_w ly wy py (gd_some rfl rfl (hv 4 rfl) rfl) rfl (hv 5 rfl) (hv 6 rfl) (has_next hb (has_new (by simp)))
    | 8, _ => exact does_not (gd_some rfl rfl (hv 4 rfl) rfl) rfl (hv 7 rfl) rfl
    | 9, _ => exact does_pick (gd_none rfl) rfl (hv 4 rfl) (hv 8 rfl)
    | n + 10, h => exact absurd h (Nat.not_lt.2 (Nat.le_add_left _ _))
  intro a' w1 hsz hdf hbel1 hr hv
  obtain ⟨g1_1, t1_1, f1_1, e1, h1_1⟩ := hv 1 (by decide)
  obtain ⟨g1_6, t1_6, f1_6, e6, h1_6⟩ := hv 6 (by decide)
  have hput := puts_eta [(7, (.slice (some ⟨w.heap.size, 0, none⟩) 9 9)), (8, .slice (some ⟨g1_1, 0, none⟩) 9 9), (9, (.bool true)), (10, (.bool false)), (11, (.bool false)), (12, (.slice (some ⟨(w.heap.size + 1), 0, none⟩) 9 9)), (13, .slice (some ⟨g1_6, 0, none⟩) 9 9), (14, (.bool true)), (15, (.bool false)), (16, (.bool false))] hsz hdf (show List.Nodup [7, 8, 9, 10, 11, 12, 13, 14, 15, 16] by decide) (by kernel_rfl) hr (List.forall_mem_cons.2 ⟨hv 0 (by decide), List.forall_mem_cons.2 ⟨e1, List.forall_mem_cons.2 ⟨hv 2 (by decide), List.forall_mem_cons.2 ⟨hv 3 (by decide), List.forall_mem_cons.2 ⟨hv 4 (by decide), List.forall_mem_cons.2 ⟨hv 5 (by decide), List.forall_mem_cons.2 ⟨e6, List.forall_mem_cons.2 ⟨hv 7 (by decide), List.forall_mem_cons.2 ⟨hv 8 (by decide), List.forall_mem_cons.2 ⟨hv 9 (by decide), fun p hp => by cases hp⟩⟩⟩⟩⟩⟩⟩⟩⟩⟩)
  clear hr hv hsz hdf e1 h1_1 e6 h1_6
  subst hput
  simp only [puts, Act.put, List.foldl_cons, List.foldl_nil, List.setIfInBounds_toArray, List.set_cons_succ, List.set_cons_zero]
  have HX : w1.heap[w.heap.size]? = some (.cells (xs.map u64).toArray 23 (0, 0)) := has_next hbel1 (has_old (has_new rfl))
  have HY : w1.heap[w.heap.size + 1]? = some (.cells (ys.map u64).toArray 23 (0, 0)) := has_next hbel1 (has_new (by simp))
  have hbb := below_next (below_new (below_new (Below.refl _ w) _) _) hbel1
  clear hbel1
  have qx := of_decide_eq_true px
  have qy := of_decide_eq_true py
  obtain ⟨ds, hds⟩ : ∃ zs, wordsOf 9 ((val xs + (prime - val ys)) % prime) = zs := ⟨_, rfl⟩
  have ld : ds.length = 9 := by rw [← hds]; exact length_wordsOf _ _
  have wd : Ws ds := by rw [← hds]; exact ws_wordsOf _ _
  have vd : val ds = (val xs + (prime - val ys)) % prime := by rw [← hds]; exact val_wordsOf 9 _ (Nat.lt_trans (Nat.mod_lt _ prime_pos) (by decide +kernel))
  have qd : val ds < prime := by rw [vd]; exact Nat.mod_lt _ prime_pos
  obtain ⟨es, hes⟩ : ∃ zs, wordsOf 9 ((val ys + (prime - val xs)) % prime) = zs := ⟨_, rfl⟩
  have le : es.length = 9 := by rw [← hes]; exact length_wordsOf _ _
  have we : Ws es := by rw [← hes]; exact ws_wordsOf _ _
  have ve : val es = (val ys + (prime - val xs)) % prime := by rw [← hes]; exact val_wordsOf 9 _ (Nat.lt_trans (Nat.mod_lt _ prime_pos) (by decide +kernel))
  have qe : val es < prime := by rw [ve]; exact Nat.mod_lt _ prime_pos
  obtain ⟨iz, z1, z2, z3⟩ := info_of (P := Try.prog) (t := 23) (n := 9) (z := .agg #[.int .u64 0, .int .u64 0, .int .u64 0, .int .u64 0, .int .u64 0, .int .u64 0, .int .u64 0, .int .u64 0, .int .u64 0]) (by kernel_rfl)
  go_upto_region 3 with fail
  refine wp_region_inv2 (by kernel_rfl) (by kernel_rfl) (fun a0 => J3 w1 a0 xs ys ds es) ?h0 ?hs ?hq
  case h0 =>
    refine { size := rfl, defers := rfl, rest := fun _ _ => rfl, bel := (Below.refl _ _).drew, s17 := fun h => ?_, s18 := fun h => ?_, s19 := fun h => ?_, s20 := fun h => ?_, s21 := fun h => ?_, s22 := fun h => ?_, s5 := fun h => ?_, s6 := fun h => ?_, ne := fun h => ?_, c8 := fun h => ?_, c9 := fun h => ?_ }
    all_goals exact absurd h (by decide)
  case hs =>
    intro i hi listed a w' hJ hsz hu hd
    have HX' := has_next hJ.bel HX
    have HY' := has_next hJ.bel HY
    match i, hi with
    | 0, _ => exact wpOp_run rfl rfl (wp_load_row 23 (.tmp 2) rfl w.heap.size ((hJ.rest 2 (by decide)).trans rfl) 23 _ (0, 0) _ HX' Try.underlying23 rfl (info_len lx) (step0 hsz hJ))
    | 1, _ => exact wpOp_run rfl rfl (wp_load_row 23 (.tmp 3) rfl (w.heap.size + 1) ((hJ.rest 3 (by decide)).trans rfl) 23 _ (0, 0) _ HY' Try.underlying23 rfl (info_len ly) (step1 hsz hJ))
    | 2, _ => exact wpOp_run rfl rfl (wp_call (call2_at (x := .tmp 17) (y := .tmp 18) Try.func13 rfl rfl rfl (hJ.s17 (hd 0 rfl)) (hJ.s18 (hd 1 rfl))) ((sub_words xs ys lx ly wx wy qx qy w').mono fun e w2 ⟨h1, h2⟩ => ⟨by rw [h1, hds], h2⟩) (fun w2 hb => step2 hsz hJ hb))
    | 3, _ => exact wpOp_run rfl rfl (wp_load_row 23 (.tmp 3) rfl (w.heap.size + 1) ((hJ.rest 3 (by decide)).trans rfl) 23 _ (0, 0) _ HY' Try.underlying23 rfl (info_len ly) (step3 hsz hJ))
    | 4, _ => exact wpOp_run rfl rfl (wp_load_row 23 (.tmp 2) rfl w.heap.size ((hJ.rest 2 (by decide)).trans rfl) 23 _ (0, 0) _ HX' Try.underlying23 rfl (info_len lx) (step4 hsz hJ))
    | 5, _ => exact wpOp_run rfl rfl (wp_call (call2_at (x := .tmp 20) (y := .tmp 21) Try.func13 rfl rfl rfl (hJ.s20 (hd 3 rfl)) (hJ.s21 (hd 4 rfl))) ((sub_words ys xs ly lx wy wx qy qx w').mono fun e w2 ⟨h1, h2⟩ => ⟨by rw [h1, hes], h2⟩) (fun w2 hb => step5 hsz hJ hb))
    | 6, _ => exact wpOp_run rfl rfl (wp_value (run_alloc z1 z3 rfl) (step6 hsz hJ hu))
    | 7, _ => exact wpOp_run rfl rfl (wp_value (run_alloc z1 z3 rfl) (step7 hsz hJ hu))
    | 8, _ =>
      obtain ⟨g, cs, e, hge, hg, hcs, _⟩ := hJ.s5 (hd 6 rfl)
      have hsv : ((ds.map u64).toArray).size = 9 := by rw [List.size_toArray, List.length_map, ld]
      exact wpOp_run rfl rfl (wp_store_row 23 (.tmp 5) (.tmp 19) rfl g _ e (hJ.s19 (hd 2 rfl)) 23 cs hg (info_len ld) (by rw [hcs, hsv]) (all_u64 _) (step8 hsz hJ (hd 6 rfl) e hge hg hsv (hJ.ne (hd 6 rfl) (hd 7 rfl))))
    | 9, _ =>
      obtain ⟨g, cs, e, hge, hg, hcs, _⟩ := hJ.s6 (hd 7 rfl)
      have hsv : ((es.map u64).toArray).size = 9 := by rw [List.size_toArray, List.length_map, le]
      exact wpOp_run rfl rfl (wp_store_row 23 (.tmp 6) (.tmp 22) rfl g _ e (hJ.s22 (hd 5 rfl)) 23 cs hg (info_len le) (by rw [hcs, hsv]) (all_u64 _) (step9 hsz hJ (hd 7 rfl) e hge hg hsv (Ne.symm (hJ.ne (hd 6 rfl) (hd 7 rfl)))))
    | n + 10, h => exact absurd h (Nat.not_lt.2 (Nat.le_add_left _ _))
  intro listed a' w3 hall hJ
  obtain ⟨g5, c5, e5, hg5, h5, _, hc5⟩ := hJ.s5 (hall 6 (by decide))
  obtain rfl := hc5 (hall 8 (by decide))
  obtain ⟨g6, c6, e6, hg6, h6, _, hc6⟩ := hJ.s6 (hall 7 (by decide))
  obtain rfl := hc6 (hall 9 (by decide))
  have hput := puts_eta [(17, .agg (xs.map u64).toArray), (18, .agg (ys.map u64).toArray), (19, .agg (ds.map u64).toArray), (20, .agg (ys.map u64).toArray), (21, .agg (xs.map u64).toArray), (22, .agg (es.map u64).toArray), (5, .pointer (some ⟨g5, 0, none⟩)), (6, .pointer (some ⟨g6, 0, none⟩))] (hJ.size.trans rfl) hJ.defers (show List.Nodup [17, 18, 19, 20, 21, 22, 5, 6] by decide) (by kernel_rfl) hJ.rest (List.forall_mem_cons.2 ⟨hJ.s17 (hall 0 (by decide)), List.forall_mem_cons.2 ⟨hJ.s18 (hall 1 (by decide)), List.forall_mem_cons.2 ⟨hJ.s19 (hall 2 (by decide)), List.forall_mem_cons.2 ⟨hJ.s20 (hall 3 (by decide)), List.forall_mem_cons.2 ⟨hJ.s21 (hall 4 (by decide)), List.forall_mem_cons.2 ⟨hJ.s22 (hall 5 (by decide)), List.forall_mem_cons.2 ⟨e5, List.forall_mem_cons.2 ⟨e6, fun p hp => by cases hp⟩⟩⟩⟩⟩⟩⟩⟩)
  have HX3 := has_next hJ.bel HX
  have HY3 := has_next hJ.bel HY
  replace hbb := below_next hbb hJ.bel
  clear hJ e5 e6 hc5 hc6 hall HX HY hg5 hg6
  subst hput
  simp only [puts, Act.put, List.foldl_cons, List.foldl_nil, List.setIfInBounds_toArray, List.set_cons_succ, List.set_cons_zero]
  go_upto_region 4 with fail
  refine wp_region_vals (by kernel_rfl) (by kernel_rfl) [23, 24, 25, 26, 27, 28, 29, 30, 31, 32, 33, 34, 4] [.is (.agg (ds.map u64).toArray), .is (.agg (ys.map u64).toArray), .is (.agg (xs.map u64).toArray), .is (.agg (xs.map u64).toArray), .is (.bool true), .is (.bool true), .is (.agg (ds.map u64).toArray), .is (.agg (es.map u64).toArray), .is (.agg (([0, 0, 0, 0, 0, 0, 0, 0, 0] : List Nat).map u64).toArray), .is (.agg (([0, 0, 0, 0, 0, 0, 0, 0, 0] : List Nat).map u64).toArray), .is (.bool true), .is (.bool true), .is (.bool true)] (by kernel_rfl) (by decide) (by kernel_rfl) ?hs4 ?hq4
  case hs4 =>
    intro i hi a' w' hb hr hv
    match i, hi with
    | 0, _ => exact load_w ld (gd_none rfl) rfl ((hr 5 (by decide)).trans rfl) (has_next hb h5)
    | 1, _ => exact load_w ly (gd_none rfl) rfl ((hr 3 (by decide)).trans rfl) (has_next hb HY3)
    | 2, _ => exact add_w ld ly wd wy qd qy (mod_self lx wx _ (sub_add qx qy vd)) (gd_none rfl) rfl (hv 0 rfl) (hv 1 rfl)
    | 3, _ => exact load_w lx (gd_none rfl) rfl ((hr 2 (by decide)).trans rfl) (has_next hb HX3)
    | 4, _ => exact eql_w lx lx (gd_none rfl) rfl (hv 2 rfl) (hv 3 rfl) (decide_eq_true rfl) rfl
    | 5, _ => exact does_move (gd_none rfl) rfl (hv 4 rfl)
    | 6, _ => exact load_w ld (gd_some rfl rfl (hv 5 rfl) rfl) rfl ((hr 5 (by decide)).trans rfl) (has_next hb h5)
    | 7, _ => exact load_w le (gd_some rfl rfl (hv 5 rfl) rfl) rfl ((hr 6 (by decide)).trans rfl) (has_next hb h6)
    | 8, _ => exact add_w ld le wd we qd qe (by rw [sub_sub qx qy vd ve]; exact zero_words) (gd_some rfl rfl (hv 5 rfl) rfl) rfl (hv 6 rfl) (hv 7 rfl)
    | 9, _ => exact build_w (gd_some rfl rfl (hv 5 rfl) rfl) rfl
    | 10, _ => exact eql_w rfl rfl (gd_some rfl rfl (hv 5 rfl) rfl) rfl (hv 8 rfl) (hv 9 rfl) (decide_eq_true rfl) rfl
    | 11, _ => exact does_pick (gd_none rfl) rfl (hv 5 rfl) (hv 10 rfl)
    | 12, _ => exact does_assign (gd_none rfl) rfl (hv 11 rfl)
    | n + 13, h => exact absurd h (Nat.not_lt.2 (Nat.le_add_left _ _))
  intro a' w4 hsz hdf hbel4 hr hv
  have hput := puts_eta [(23, (.agg (ds.map u64).toArray)), (24, (.agg (ys.map u64).toArray)), (25, (.agg (xs.map u64).toArray)), (26, (.agg (xs.map u64).toArray)), (27, (.bool true)), (28, (.bool true)), (29, (.agg (ds.map u64).toArray)), (30, (.agg (es.map u64).toArray)), (31, (.agg (([0, 0, 0, 0, 0, 0, 0, 0, 0] : List Nat).map u64).toArray)), (32, (.agg (([0, 0, 0, 0, 0, 0, 0, 0, 0] : List Nat).map u64).toArray)), (33, (.bool true)), (34, (.bool true)), (4, (.bool true))] hsz hdf (show List.Nodup [23, 24, 25, 26, 27, 28, 29, 30, 31, 32, 33, 34, 4] by decide) (by kernel_rfl) hr (List.forall_mem_cons.2 ⟨hv 0 (by decide), List.forall_mem_cons.2 ⟨hv 1 (by decide), List.forall_mem_cons.2 ⟨hv 2 (by decide), List.forall_mem_cons.2 ⟨hv 3 (by decide), List.forall_mem_cons.2 ⟨hv 4 (by decide), List.forall_mem_cons.2 ⟨hv 5 (by decide), List.forall_mem_cons.2 ⟨hv 6 (by decide), List.forall_mem_cons.2 ⟨hv 7 (by decide), List.forall_mem_cons.2 ⟨hv 8 (by decide), List.forall_mem_cons.2 ⟨hv 9 (by decide), List.forall_mem_cons.2 ⟨hv 10 (by decide), List.forall_mem_cons.2 ⟨hv 11 (by decide), List.forall_mem_cons.2 ⟨hv 12 (by decide), fun p hp => by cases hp⟩⟩⟩⟩⟩⟩⟩⟩⟩⟩⟩⟩⟩)
  clear hr hv hsz hdf 
  subst hput
  simp only [puts, Act.put, List.foldl_cons, List.foldl_nil, List.setIfInBounds_toArray, List.set_cons_succ, List.set_cons_zero]
  go_wp2
  go_ret
  exact ⟨rfl, below_next hbb hbel4⟩
theorem walk (a0 a1 a2 a3 a4 a5 a6 a7 a8 b0 b1 b2 b3 b4 b5 b6 b7 b8 : Nat) (ha : Ws [a0, a1, a2, a3, a4, a5, a6, a7, a8]) (hb : Ws [b0, b1, b2, b3, b4, b5, b6, b7, b8]) (w : World) :
    Calls Try.prog 6 #[.agg #[.int .u64 a0, .int .u64 a1, .int .u64 a2, .int .u64 a3, .int .u64 a4, .int .u64 a5, .int .u64 a6, .int .u64 a7, .int .u64 a8], .agg #[.int .u64 b0, .int .u64 b1, .int .u64 b2, .int .u64 b3, .int .u64 b4, .int .u64 b5, .int .u64 b6, .int .u64 b7, .int .u64 b8]] w fun e w' => e = .returned (.bool true) ∧ Below w.heap.size w w' := by
  by_cases h1 : val [a0, a1, a2, a3, a4, a5, a6, a7, a8] < prime
  · by_cases h2 : val [b0, b1, b2, b3, b4, b5, b6, b7, b8] < prime
    · exact walk0 [a0, a1, a2, a3, a4, a5, a6, a7, a8] [b0, b1, b2, b3, b4, b5, b6, b7, b8] rfl rfl ha hb (decide_eq_true h1) (decide_eq_true h2) w
    · exact walk1 [a0, a1, a2, a3, a4, a5, a6, a7, a8] [b0, b1, b2, b3, b4, b5, b6, b7, b8] rfl rfl ha hb (decide_eq_true h1) (decide_eq_false h2) w
  · exact walk2 [a0, a1, a2, a3, a4, a5, a6, a7, a8] [b0, b1, b2, b3, b4, b5, b6, b7, b8] rfl rfl ha hb (decide_eq_false h1) w

set_option maxRecDepth 100000 in
theorem lifted (os : Os) (started : os.Started) (H : Type) (enc : TypeId × Value → H) :
    ReturnsInHanded {} Try.checked os 6 .any (Rows.fnSubBackP521Spec.pre6 enc Try.prog Try.f6 Rows.fnSubBackP521Row.domain false) (Rows.fnSubBackP521Spec.post enc Try.prog Try.f6 false true false false) := by
  refine returnsInHanded_of_change (C := Try.checked) own started (by kernel_rfl) Try.func6
    (ChangeSpec.witness6 (enc := enc) (C := Try.checked) false ⟨#[], #[.agg #[.int .u64 0, .int .u64 0, .int .u64 0, .int .u64 0, .int .u64 0, .int .u64 0, .int .u64 0, .int .u64 0, .int .u64 0], .agg #[.int .u64 0, .int .u64 0, .int .u64 0, .int .u64 0, .int .u64 0, .int .u64 0, .int .u64 0, .int .u64 0, .int .u64 0]], []⟩ 8 (by kernel_rfl) (by kernel_rfl) (by kernel_rfl) (by kernel_rfl)) ?_
  intro W base args ds gs before hval0 hW hcnd _
  have hval : ∀ (j : Nat) t v, Try.f6.params[j]? = some t → args[j]? = some v → Value.okWide Try.prog W .any base t v := hval0
  have hW' := hW
  obtain ⟨p, q, hA0, hV, rfl, hfz, hnd⟩ := hW
  have hA : DataW.TrodAll enc Try.prog W 0 (fun _ => true) true Try.f6.params.toList args.toList ds p := hA0
  rw [Try.params6] at hA hval
  obtain ⟨v0, vs0, d0, ds0, p0, q0, hargs, rfl, rfl, h0, r0⟩ := trodAll_cons hA
  obtain ⟨v1, vs1, d1, ds1, p1, q1, rfl, rfl, rfl, h1, r1⟩ := trodAll_cons r0
  obtain ⟨rfl, rfl, rfl⟩ := trodAll_nil r1
  obtain rfl : args = #[v0, v1] := by cases args; simp_all
  obtain ⟨rfl, rfl⟩ := trodVars_none hV
  have k0 := h0
  have lt0 : ∀ x ∈ p0, x.block < W.heap.size := by obtain ⟨m, hm⟩ := k0; exact DataW.trod_lt m _ _ _ hm
  obtain ⟨x0, l0, w0, rfl⟩ := open_words Try.underlying23 Try.underlying22 cells_e cells_t (hval 0 23 v0 rfl rfl) h0
  obtain ⟨a0, a1, a2, a3, a4, a5, a6, a7, a8, rfl⟩ := len_all l0
  have k1 := h1
  have lt1 : ∀ x ∈ p1, x.block < W.heap.size := by obtain ⟨m, hm⟩ := k1; exact DataW.trod_lt m _ _ _ hm
  obtain ⟨x1, l1, w1, rfl⟩ := open_words Try.underlying23 Try.underlying22 cells_e cells_t (hval 1 23 v1 rfl rfl) h1
  obtain ⟨b0, b1, b2, b3, b4, b5, b6, b7, b8, rfl⟩ := len_all l1
  clear hA0 hval0
  refine (walk a0 a1 a2 a3 a4 a5 a6 a7 a8 b0 b1 b2 b3 b4 b5 b6 b7 b8 w0 w1 W).mono fun e W' ⟨he, bel⟩ => ?_
  subst he
  exact ⟨_, rfl, _, _, _, [], _, [], hW', trodAll_mk1 (shut_bool Try.underlying4 _), (trodAll_cons_mk (Below.trod laidOut (by kernel_rfl) (of_decide_eq_true (by kernel_rfl)) k0 bel lt0) (trodAll_cons_mk (Below.trod laidOut (by kernel_rfl) (of_decide_eq_true (by kernel_rfl)) k1 bel lt1) trodAll_mk0)), rfl, bel.frame _, fun h => by cases h⟩

theorem over : Rows.fnSubBackP521Row.holds Try.pinned (OpenSpec.ofChange Rows.fnSubBackP521Spec) :=
  OpenClaim.holds_of_wide 6 Try.f6 rfl rfl rfl rfl rfl rfl rfl ⟨rfl, rfl, rfl, rfl, rfl⟩ rfl rfl rfl rfl rfl (by kernel_rfl) Try.func6 (by kernel_rfl)
    (of_decide_eq_true (by kernel_rfl)) (by unfold Func.isWrapper; first | (rw [if_pos (by decide +kernel)]; kernel_rfl) | (rw [if_neg (by decide +kernel)]; exact ⟨rfl, rfl⟩))
    (fun os started H enc _ => lifted os started H enc)

end Go.Proofs.Ytnpeilpnpedmcaa.SubBack
namespace Go.Proofs.Ytnpeilpnpedmcaa
theorem fnSubBackP521Holds : Rows.FnSubBackP521Said := SubBack.over
#print axioms fnSubBackP521Holds
end Go.Proofs.Ytnpeilpnpedmcaa
