/-
  The operations of the laws' regions over this program's words.
-/
import Derived.Test.YtnpeilpnpedmcaaVals
namespace Go.Proofs.Ytnpeilpnpedmcaa
set_option linter.unusedSimpArgs false
set_option linter.unusedVariables false
open Go.RowKit Num

theorem info_len {xs : List Nat} (h : xs.length = 9) : (Try.prog.info? 23).map (·.size) = some ((xs.map u64).toArray).size := by
  rw [List.size_toArray, List.length_map, h]
  kernel_rfl
theorem add_words (xs ys : List Nat) (hlx : xs.length = 9) (hly : ys.length = 9) (hx : Ws xs) (hy : Ws ys) (px : val xs < prime) (py : val ys < prime) (w : World) :
    Calls Try.prog 10 #[(.agg (xs.map u64).toArray), (.agg (ys.map u64).toArray)] w fun e w' => e = .returned (.agg ((wordsOf 9 ((val xs + val ys) % prime)).map u64).toArray) ∧ Below w.heap.size w w' := by
  obtain ⟨a0, a1, a2, a3, a4, a5, a6, a7, a8, rfl⟩ := len_all hlx
  obtain ⟨b0, b1, b2, b3, b4, b5, b6, b7, b8, rfl⟩ := len_all hly
  exact implAdd a0 a1 a2 a3 a4 a5 a6 a7 a8 b0 b1 b2 b3 b4 b5 b6 b7 b8 hx hy px py w
theorem sub_words (xs ys : List Nat) (hlx : xs.length = 9) (hly : ys.length = 9) (hx : Ws xs) (hy : Ws ys) (px : val xs < prime) (py : val ys < prime) (w : World) :
    Calls Try.prog 13 #[(.agg (xs.map u64).toArray), (.agg (ys.map u64).toArray)] w fun e w' => e = .returned (.agg ((wordsOf 9 ((val xs + (prime - val ys)) % prime)).map u64).toArray) ∧ Below w.heap.size w w' := by
  obtain ⟨a0, a1, a2, a3, a4, a5, a6, a7, a8, rfl⟩ := len_all hlx
  obtain ⟨b0, b1, b2, b3, b4, b5, b6, b7, b8, rfl⟩ := len_all hly
  exact implSub a0 a1 a2 a3 a4 a5 a6 a7 a8 b0 b1 b2 b3 b4 b5 b6 b7 b8 hx hy px py w
section
variable {ops : Array Oper} {i : Nat} {a : Act} {w : World} {x y : Operand} {xs ys zs : List Nat} {g : Nat}
theorem load_w (hl : xs.length = 9) (hg : Gd ops i a = some true) (hop : (ops[i]?).map (·.op) = some (.load 23 x)) (hx : a.eval x = .pointer (some ⟨g, 0, none⟩)) (hb : w.heap[g]? = some (.cells (xs.map u64).toArray 23 (0, 0))) : Does Try.prog ops (.is (.agg (xs.map u64).toArray)) i a w :=
  does_load hg hop hx hb Try.underlying23 rfl (info_len hl)
theorem slice_w (hg : Gd ops i a = some true) (hop : (ops[i]?).map (·.op) = some (.slice 23 x none none none)) (hx : a.eval x = .pointer (some ⟨g, 0, none⟩)) : Does Try.prog ops (.is (.slice (some ⟨g, 0, none⟩) 9 9)) i a w := by
  obtain ⟨j, h1, h2, _⟩ := info_of (P := Try.prog) (t := 22) (n := 1) (z := .int .u64 0) (by kernel_rfl)
  exact does_slice hg hop hx Try.underlying23 h1
theorem eql_w {u : TypeId} {b c : Bool} (hlx : xs.length = 9) (hly : ys.length = 9) (hg : Gd ops i a = some true) (hop : (ops[i]?).map (·.op) = some (.binOp .eql 23 x y u)) (hx : a.eval x = (.agg (xs.map u64).toArray)) (hy : a.eval y = (.agg (ys.map u64).toArray)) (hb : decide (xs = ys) = b) (hc : c = b) : Does Try.prog ops (.is (.bool c)) i a w :=
  does_eql hg hop hx hy (by kernel_rfl) (by rw [eq_words xs ys hlx hly w, hb]) (by rw [hc])
theorem neq_w {u : TypeId} {b c : Bool} (hlx : xs.length = 9) (hly : ys.length = 9) (hg : Gd ops i a = some true) (hop : (ops[i]?).map (·.op) = some (.binOp .neq 23 x y u)) (hx : a.eval x = (.agg (xs.map u64).toArray)) (hy : a.eval y = (.agg (ys.map u64).toArray)) (hb : decide (xs = ys) = b) (hc : c = (!b)) : Does Try.prog ops (.is (.bool c)) i a w :=
  does_neq hg hop hx hy (by kernel_rfl) (by rw [eq_words xs ys hlx hly w, hb]) (by rw [hc])
theorem build_w (hg : Gd ops i a = some true) (hop : (ops[i]?).map (·.op) = some (.build 23 #[])) : Does Try.prog ops (.is (.agg (([0, 0, 0, 0, 0, 0, 0, 0, 0] : List Nat).map u64).toArray)) i a w := by
  obtain ⟨j, h1, h2, _⟩ := info_of (P := Try.prog) (t := 22) (n := 1) (z := .int .u64 0) (by kernel_rfl)
  obtain ⟨k, h3, h4, h5⟩ := info_of (P := Try.prog) (t := 23) (n := 9) (z := .agg #[.int .u64 0, .int .u64 0, .int .u64 0, .int .u64 0, .int .u64 0, .int .u64 0, .int .u64 0, .int .u64 0, .int .u64 0]) (by kernel_rfl)
  exact does_build hg hop Try.underlying23 h1 h3 h5
theorem prime_w {ts : Array TypeId} (hg : Gd ops i a = some true) (hop : (ops[i]?).map (·.op) = some (.call { callee := .value (.func 9), args := #[], argTypes := ts })) : Does Try.prog ops (.words pwords) i a w :=
  does_call (args := #[]) hg hop Try.func9 rfl rfl (by simp) ((prime_any w).mono fun e w' ⟨h1, h2⟩ => ⟨_, h1, by rw [h2]; exact (Below.refl _ _).alloc (Nat.le_refl _) _, w.heap.size, 22, (0, 0), rfl, by rw [h2]; exact has_new rfl⟩)
theorem less_w {ts : Array TypeId} {b : Bool} {t : TypeId} {fr : Nat × Nat} (hl : xs.length = 9) (hw : Ws xs) (hb : decide (val xs < prime) = b) (hg : Gd ops i a = some true) (hop : (ops[i]?).map (·.op) = some (.call { callee := .value (.func 8), args := #[x, y], argTypes := ts }))
    (hx : a.eval x = .slice (some ⟨g, 0, none⟩) 9 9) (hy : (RV.words pwords).holds w (a.eval y)) (hh : w.heap[g]? = some (.cells (xs.map u64).toArray t fr)) : Does Try.prog ops (.is (.bool b)) i a w := by
  obtain ⟨g2, t2, f2, e2, h2⟩ := hy
  exact does_call hg hop Try.func8 rfl rfl (by simp only [List.map_toArray, List.map_cons, List.map_nil, hx, e2]; rfl) ((less_prime xs g g2 t t2 fr f2 w b hb hl hw hh h2).mono fun e w' ⟨h1, m, h3⟩ => ⟨_, h1, by rw [h3]; exact below_drewN (Below.refl _ _) m, rfl⟩)
theorem add_w {ts : Array TypeId} (hlx : xs.length = 9) (hly : ys.length = 9) (wx : Ws xs) (wy : Ws ys) (px : val xs < prime) (py : val ys < prime) (hz : wordsOf 9 ((val xs + val ys) % prime) = zs) (hg : Gd ops i a = some true) (hop : (ops[i]?).map (·.op) = some (.call { callee := .value (.func 10), args := #[x, y], argTypes := ts }))
    (hx : a.eval x = (.agg (xs.map u64).toArray)) (hy : a.eval y = (.agg (ys.map u64).toArray)) : Does Try.prog ops (.is (.agg (zs.map u64).toArray)) i a w := by
  subst hz
  exact does_call hg hop Try.func10 rfl rfl (by simp only [List.map_toArray, List.map_cons, List.map_nil, hx, hy]) ((add_words xs ys hlx hly wx wy px py w).mono fun e w' ⟨h1, h2⟩ => ⟨_, h1, h2, rfl⟩)
theorem sub_w {ts : Array TypeId} (hlx : xs.length = 9) (hly : ys.length = 9) (wx : Ws xs) (wy : Ws ys) (px : val xs < prime) (py : val ys < prime) (hz : wordsOf 9 ((val xs + (prime - val ys)) % prime) = zs) (hg : Gd ops i a = some true) (hop : (ops[i]?).map (·.op) = some (.call { callee := .value (.func 13), args := #[x, y], argTypes := ts }))
    (hx : a.eval x = (.agg (xs.map u64).toArray)) (hy : a.eval y = (.agg (ys.map u64).toArray)) : Does Try.prog ops (.is (.agg (zs.map u64).toArray)) i a w := by
  subst hz
  exact does_call hg hop Try.func13 rfl rfl (by simp only [List.map_toArray, List.map_cons, List.map_nil, hx, hy]) ((sub_words xs ys hlx hly wx wy px py w).mono fun e w' ⟨h1, h2⟩ => ⟨_, h1, h2, rfl⟩)
end
end Go.Proofs.Ytnpeilpnpedmcaa
