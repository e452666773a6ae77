/-
  The doors of the package and the thin package over them: what each call hands back; nothing that was there before it changes.
-/
import Derived.Test.YtnpeilpnpedmcaaLeaf
import Derived.WalkKit
import Derived.RegionTactic
import Derived.ChangeAlike
import Derived.Laws.Rows
import Derived.OwnWalk
namespace Go.Proofs.Ytnpeilpnpedmcaa
open Go.RowKit Num

theorem wpList_store_row {P : Program} {ops : Array Oper} {rest : List Oper} {o : Oper} {a : Act} {w : World} {Q : Exit → Act → World → Prop} (hgd : o.guard = none) (ty : TypeId) (x y : Operand) (ho : o.op = .store ty x y)
    (g : Nat) (cells : Array Value) (hx : a.eval x = .pointer (some ⟨g, 0, none⟩)) (hy : a.eval y = .agg cells)
    (t : TypeId) (old : Array Value) (hg : w.heap[g]? = some (.cells old t (0, 0))) (hi : (P.info? ty).map (·.size) = some cells.size)
    (hold : old.size = cells.size) (h1 : cells.all (·.oneCell') = true)
    (h : wpList P ops Q rest (a.put o.dst undef) (w.setRow g cells)) : wpList P ops Q (o :: rest) a w :=
  wpList_plain hgd fun _ hK => wp_store_row ty x y ho g cells hx hy t old hg hi hold h1 (hK _ _ h)
theorem blk_new (w : World) (o : Obj) {n : Nat} (h : n = w.heap.size) : (w.alloc o).heap[n]? = some o := by subst h; exact heap_alloc_new w o
theorem blk_old (w : World) (o : Obj) {n : Nat} (h : n < w.heap.size) : (w.alloc o).heap[n]? = w.heap[n]? := heap_alloc_old w o h
theorem size_alloc (w : World) (o : Obj) : (w.alloc o).heap.size = w.heap.size + 1 := by show (w.heap.push o).size = _; simp
theorem size_drew (w : World) : w.drew.heap.size = w.heap.size := rfl
theorem all_u64 (l : List Nat) : ((l.map u64).toArray).all (·.oneCell') = true := by
  simp [u64, Value.oneCell']
theorem all_u8 (l : List Nat) : ((l.map u8).toArray).all (·.oneCell') = true := by
  simp [u8, Value.oneCell']
theorem below_setRow {B : Nat} {a w : World} (h : Below B a w) {g : Nat} (hg : B ≤ g) (cs : Array Value) : Below B a (w.setRow g cs) :=
  ⟨h.os, h.tape, h.output, by rw [size_setRow]; exact h.size, fun k hk => (setRow_other w g k cs (by omega)).trans (h.block k hk)⟩
theorem below_wrote {B g : Nat} {o : Obj} {a w w' : World} (h : Below B a w) (hw : Sym.Wrote g o w w') (hB : B ≤ w.heap.size) (hg : B ≤ g) : Below B a w' :=
  h.trans ⟨hw.os, hw.tape, hw.output, hw.size, fun k hk => hw.old k (by omega) (by omega)⟩
theorem below_at {B n : Nat} {w w' : World} {o : Obj} (h : Below B w w') (hn : n < B) (ho : w.heap[n]? = some o) : w'.heap[n]? = some o := (h.block n hn).trans ho
theorem info_m : (Try.prog.info? 37).map (·.size) = some 9 := by kernel_rfl
theorem info_a : (Try.prog.info? 23).map (·.size) = some 9 := by kernel_rfl
set_option maxHeartbeats 1000000 in
theorem zzAdd (a0 a1 a2 a3 a4 a5 a6 a7 a8 b0 b1 b2 b3 b4 b5 b6 b7 b8 : Nat) (ha : Ws [a0, a1, a2, a3, a4, a5, a6, a7, a8]) (hb : Ws [b0, b1, b2, b3, b4, b5, b6, b7, b8]) (lta : val [a0, a1, a2, a3, a4, a5, a6, a7, a8] < prime) (ltb : val [b0, b1, b2, b3, b4, b5, b6, b7, b8] < prime) (w : World) :
    Calls Try.prog 15 #[.agg #[.int .u64 a0, .int .u64 a1, .int .u64 a2, .int .u64 a3, .int .u64 a4, .int .u64 a5, .int .u64 a6, .int .u64 a7, .int .u64 a8], .agg #[.int .u64 b0, .int .u64 b1, .int .u64 b2, .int .u64 b3, .int .u64 b4, .int .u64 b5, .int .u64 b6, .int .u64 b7, .int .u64 b8]] w fun e w' => e = .returned (.agg ((wordsOf 9 ((val [a0, a1, a2, a3, a4, a5, a6, a7, a8] + val [b0, b1, b2, b3, b4, b5, b6, b7, b8]) % prime)).map u64).toArray) ∧ Below w.heap.size w w' := by
  obtain ⟨C, hC⟩ : ∃ C : Array Value, C = ((wordsOf 9 ((val [a0, a1, a2, a3, a4, a5, a6, a7, a8] + val [b0, b1, b2, b3, b4, b5, b6, b7, b8]) % prime)).map u64).toArray := ⟨_, rfl⟩
  have hsz : C.size = 9 := by rw [hC]; simp [length_wordsOf]
  have hall : C.all (·.oneCell') = true := by rw [hC]; exact all_u64 _
  have hleaf := fun (w : World) (gz gx gy : Nat) => leafAdd w gz gx gy [a0, a1, a2, a3, a4, a5, a6, a7, a8] [b0, b1, b2, b3, b4, b5, b6, b7, b8] rfl rfl ha hb lta ltb
  rw [← hC] at hleaf
  rw [← hC]
  have HL := Lib.hid hleaf
  clear hleaf hC ha hb lta ltb
  have hinf := Lib.hid info_a; have hinm := Lib.hid info_m; have Hs := Lib.hid hsz; have Ha := Lib.hid hall
  clear hsz hall
  go_enter Try.func15, Try.ntmps15
  go_wp2
  go_region
  all_goals
    go_wp2_with fail
    refine (HL.out _ _ _ _ ?nd ?hz ?hx ?hy).mono ?_
    case nd => simp <;> omega
    case hz => rw [heap_drew]; exact blk_new _ _ (by simp <;> omega)
    case hx => first | (rw [heap_drew, blk_old _ _ (by simp <;> omega), blk_old _ _ (by simp <;> omega)]; exact blk_new _ _ (by simp <;> omega)) | (rw [heap_drew, blk_old _ _ (by simp <;> omega)]; exact blk_new _ _ (by simp <;> omega))
    case hy => first | (rw [heap_drew, blk_old _ _ (by simp <;> omega), blk_old _ _ (by simp <;> omega)]; exact blk_new _ _ (by simp <;> omega)) | (rw [heap_drew, blk_old _ _ (by simp <;> omega)]; exact blk_new _ _ (by simp <;> omega))
    rintro e w1 ⟨rfl, hw⟩
    have hres : w1.heap[w.heap.size + 1 + 1]? = some (.cells #[.int .u64 0, .int .u64 0, .int .u64 0, .int .u64 0, .int .u64 0, .int .u64 0, .int .u64 0, .int .u64 0, .int .u64 0] 23 (0, 0)) := by
      rw [hw.old _ (by simp <;> omega) (by omega)]
      rw [heap_drew, blk_old _ _ (by simp <;> omega), blk_old _ _ (by simp <;> omega), blk_old _ _ (by simp <;> omega)]; exact blk_new _ _ (by simp <;> omega)
    have hbel : Below w.heap.size w w1 := below_wrote ((((((((Below.refl _ _).alloc (Nat.le_refl _) _)).alloc (by simp <;> omega) _).alloc (by simp <;> omega) _).alloc (by simp <;> omega) _).alloc (by simp <;> omega) _).alloc (by simp <;> omega) _).drew hw (by simp <;> omega) (by omega)
    have hblk := Lib.hid hw.blk
    have Hres := Lib.hid hres
    have Hbel := Lib.hid hbel
    clear hw hres hbel
    go_wp2_with (first | (refine wpList_load_row rfl 37 (.tmp 7) rfl (w.heap.size + 1 + 1 + 1 + 1 + 1) rfl 37 _ (0, 0) _ hblk.out Try.underlying37 rfl (hinm.out.trans (by rw [Hs.out])) ?_) | (refine wpList_store_row rfl 23 (.tmp 4) (.tmp 11) rfl (w.heap.size + 1 + 1) _ rfl rfl 23 _ Hres.out (hinf.out.trans (by rw [Hs.out])) (by rw [Hs.out]; rfl) Ha.out ?_))
    exact bodyPost_ret (results_cell_row Try.results15 _ _ (w.heap.size + 1 + 1) 23 _ (0, 0) _ rfl (setRow_heap _ _ _ _ _ _ Hres.out) Try.underlying23 rfl (hinf.out.trans (by rw [Hs.out]))) rfl ⟨rfl, below_setRow Hbel.out (by omega) _⟩

set_option maxHeartbeats 1000000 in
theorem zzSub (a0 a1 a2 a3 a4 a5 a6 a7 a8 b0 b1 b2 b3 b4 b5 b6 b7 b8 : Nat) (ha : Ws [a0, a1, a2, a3, a4, a5, a6, a7, a8]) (hb : Ws [b0, b1, b2, b3, b4, b5, b6, b7, b8]) (lta : val [a0, a1, a2, a3, a4, a5, a6, a7, a8] < prime) (ltb : val [b0, b1, b2, b3, b4, b5, b6, b7, b8] < prime) (w : World) :
    Calls Try.prog 18 #[.agg #[.int .u64 a0, .int .u64 a1, .int .u64 a2, .int .u64 a3, .int .u64 a4, .int .u64 a5, .int .u64 a6, .int .u64 a7, .int .u64 a8], .agg #[.int .u64 b0, .int .u64 b1, .int .u64 b2, .int .u64 b3, .int .u64 b4, .int .u64 b5, .int .u64 b6, .int .u64 b7, .int .u64 b8]] w fun e w' => e = .returned (.agg ((wordsOf 9 ((val [a0, a1, a2, a3, a4, a5, a6, a7, a8] + (prime - val [b0, b1, b2, b3, b4, b5, b6, b7, b8])) % prime)).map u64).toArray) ∧ Below w.heap.size w w' := by
  obtain ⟨C, hC⟩ : ∃ C : Array Value, C = ((wordsOf 9 ((val [a0, a1, a2, a3, a4, a5, a6, a7, a8] + (prime - val [b0, b1, b2, b3, b4, b5, b6, b7, b8])) % prime)).map u64).toArray := ⟨_, rfl⟩
  have hsz : C.size = 9 := by rw [hC]; simp [length_wordsOf]
  have hall : C.all (·.oneCell') = true := by rw [hC]; exact all_u64 _
  have hleaf := fun (w : World) (gz gx gy : Nat) => leafSub w gz gx gy [a0, a1, a2, a3, a4, a5, a6, a7, a8] [b0, b1, b2, b3, b4, b5, b6, b7, b8] rfl rfl ha hb lta ltb
  rw [← hC] at hleaf
  rw [← hC]
  have HL := Lib.hid hleaf
  clear hleaf hC ha hb lta ltb
  have hinf := Lib.hid info_a; have hinm := Lib.hid info_m; have Hs := Lib.hid hsz; have Ha := Lib.hid hall
  clear hsz hall
  go_enter Try.func18, Try.ntmps18
  go_wp2
  go_region
  all_goals
    go_wp2_with fail
    refine (HL.out _ _ _ _ ?nd ?hz ?hx ?hy).mono ?_
    case nd => simp <;> omega
    case hz => rw [heap_drew]; exact blk_new _ _ (by simp <;> omega)
    case hx => first | (rw [heap_drew, blk_old _ _ (by simp <;> omega), blk_old _ _ (by simp <;> omega)]; exact blk_new _ _ (by simp <;> omega)) | (rw [heap_drew, blk_old _ _ (by simp <;> omega)]; exact blk_new _ _ (by simp <;> omega))
    case hy => first | (rw [heap_drew, blk_old _ _ (by simp <;> omega), blk_old _ _ (by simp <;> omega)]; exact blk_new _ _ (by simp <;> omega)) | (rw [heap_drew, blk_old _ _ (by simp <;> omega)]; exact blk_new _ _ (by simp <;> omega))
    rintro e w1 ⟨rfl, hw⟩
    have hres : w1.heap[w.heap.size + 1 + 1]? = some (.cells #[.int .u64 0, .int .u64 0, .int .u64 0, .int .u64 0, .int .u64 0, .int .u64 0, .int .u64 0, .int .u64 0, .int .u64 0] 23 (0, 0)) := by
      rw [hw.old _ (by simp <;> omega) (by omega)]
      rw [heap_drew, blk_old _ _ (by simp <;> omega), blk_old _ _ (by simp <;> omega), blk_old _ _ (by simp <;> omega)]; exact blk_new _ _ (by simp <;> omega)
    have hbel : Below w.heap.size w w1 := below_wrote ((((((((Below.refl _ _).alloc (Nat.le_refl _) _)).alloc (by simp <;> omega) _).alloc (by simp <;> omega) _).alloc (by simp <;> omega) _).alloc (by simp <;> omega) _).alloc (by simp <;> omega) _).drew hw (by simp <;> omega) (by omega)
    have hblk := Lib.hid hw.blk
    have Hres := Lib.hid hres
    have Hbel := Lib.hid hbel
    clear hw hres hbel
    go_wp2_with (first | (refine wpList_load_row rfl 37 (.tmp 7) rfl (w.heap.size + 1 + 1 + 1 + 1 + 1) rfl 37 _ (0, 0) _ hblk.out Try.underlying37 rfl (hinm.out.trans (by rw [Hs.out])) ?_) | (refine wpList_store_row rfl 23 (.tmp 4) (.tmp 11) rfl (w.heap.size + 1 + 1) _ rfl rfl 23 _ Hres.out (hinf.out.trans (by rw [Hs.out])) (by rw [Hs.out]; rfl) Ha.out ?_))
    exact bodyPost_ret (results_cell_row Try.results18 _ _ (w.heap.size + 1 + 1) 23 _ (0, 0) _ rfl (setRow_heap _ _ _ _ _ _ Hres.out) Try.underlying23 rfl (hinf.out.trans (by rw [Hs.out]))) rfl ⟨rfl, below_setRow Hbel.out (by omega) _⟩

set_option maxHeartbeats 1000000 in
theorem implAdd (a0 a1 a2 a3 a4 a5 a6 a7 a8 b0 b1 b2 b3 b4 b5 b6 b7 b8 : Nat) (ha : Ws [a0, a1, a2, a3, a4, a5, a6, a7, a8]) (hb : Ws [b0, b1, b2, b3, b4, b5, b6, b7, b8]) (lta : val [a0, a1, a2, a3, a4, a5, a6, a7, a8] < prime) (ltb : val [b0, b1, b2, b3, b4, b5, b6, b7, b8] < prime) (w : World) :
    Calls Try.prog 10 #[.agg #[.int .u64 a0, .int .u64 a1, .int .u64 a2, .int .u64 a3, .int .u64 a4, .int .u64 a5, .int .u64 a6, .int .u64 a7, .int .u64 a8], .agg #[.int .u64 b0, .int .u64 b1, .int .u64 b2, .int .u64 b3, .int .u64 b4, .int .u64 b5, .int .u64 b6, .int .u64 b7, .int .u64 b8]] w fun e w' => e = .returned (.agg ((wordsOf 9 ((val [a0, a1, a2, a3, a4, a5, a6, a7, a8] + val [b0, b1, b2, b3, b4, b5, b6, b7, b8]) % prime)).map u64).toArray) ∧ Below w.heap.size w w' := by
  obtain ⟨C, hC⟩ : ∃ C : Array Value, C = ((wordsOf 9 ((val [a0, a1, a2, a3, a4, a5, a6, a7, a8] + val [b0, b1, b2, b3, b4, b5, b6, b7, b8]) % prime)).map u64).toArray := ⟨_, rfl⟩
  have hsz : C.size = 9 := by rw [hC]; simp [length_wordsOf]
  have hall : C.all (·.oneCell') = true := by rw [hC]; exact all_u64 _
  have hleaf := fun (w : World) => zzAdd a0 a1 a2 a3 a4 a5 a6 a7 a8 b0 b1 b2 b3 b4 b5 b6 b7 b8 ha hb lta ltb w
  rw [← hC] at hleaf
  rw [← hC]
  have HL := Lib.hid hleaf
  clear hleaf hC ha hb lta ltb
  have hinf := Lib.hid info_a; have Hs := Lib.hid hsz; have Ha := Lib.hid hall
  clear hsz hall
  go_enter Try.func10, Try.ntmps10
  go_wp2_with fail
  refine (HL.out _).mono ?_
  rintro e w1 ⟨rfl, hb1⟩
  have hres : w1.heap[w.heap.size + 1 + 1]? = some (.cells #[.int .u64 0, .int .u64 0, .int .u64 0, .int .u64 0, .int .u64 0, .int .u64 0, .int .u64 0, .int .u64 0, .int .u64 0] 23 (0, 0)) := below_at hb1 (by simp <;> omega) (by exact blk_new _ _ (by simp <;> omega))
  have hbel : Below w.heap.size w w1 := (((((Below.refl _ _).alloc (Nat.le_refl _) _)).alloc (by simp <;> omega) _).alloc (by simp <;> omega) _).trans (hb1.mono (by simp <;> omega))
  have Hres := Lib.hid hres
  have Hbel := Lib.hid hbel
  clear hb1 hres hbel
  go_wp2_with (refine wpList_store_row rfl 23 (.tmp 4) (.tmp 7) rfl (w.heap.size + 1 + 1) _ rfl rfl 23 _ Hres.out (hinf.out.trans (by rw [Hs.out])) (by rw [Hs.out]; rfl) Ha.out ?_)
  exact bodyPost_ret (results_cell_row Try.results10 _ _ (w.heap.size + 1 + 1) 23 _ (0, 0) _ rfl (setRow_heap _ _ _ _ _ _ Hres.out) Try.underlying23 rfl (hinf.out.trans (by rw [Hs.out]))) rfl ⟨rfl, below_setRow Hbel.out (by omega) _⟩

set_option maxHeartbeats 1000000 in
theorem implSub (a0 a1 a2 a3 a4 a5 a6 a7 a8 b0 b1 b2 b3 b4 b5 b6 b7 b8 : Nat) (ha : Ws [a0, a1, a2, a3, a4, a5, a6, a7, a8]) (hb : Ws [b0, b1, b2, b3, b4, b5, b6, b7, b8]) (lta : val [a0, a1, a2, a3, a4, a5, a6, a7, a8] < prime) (ltb : val [b0, b1, b2, b3, b4, b5, b6, b7, b8] < prime) (w : World) :
    Calls Try.prog 13 #[.agg #[.int .u64 a0, .int .u64 a1, .int .u64 a2, .int .u64 a3, .int .u64 a4, .int .u64 a5, .int .u64 a6, .int .u64 a7, .int .u64 a8], .agg #[.int .u64 b0, .int .u64 b1, .int .u64 b2, .int .u64 b3, .int .u64 b4, .int .u64 b5, .int .u64 b6, .int .u64 b7, .int .u64 b8]] w fun e w' => e = .returned (.agg ((wordsOf 9 ((val [a0, a1, a2, a3, a4, a5, a6, a7, a8] + (prime - val [b0, b1, b2, b3, b4, b5, b6, b7, b8])) % prime)).map u64).toArray) ∧ Below w.heap.size w w' := by
  obtain ⟨C, hC⟩ : ∃ C : Array Value, C = ((wordsOf 9 ((val [a0, a1, a2, a3, a4, a5, a6, a7, a8] + (prime - val [b0, b1, b2, b3, b4, b5, b6, b7, b8])) % prime)).map u64).toArray := ⟨_, rfl⟩
  have hsz : C.size = 9 := by rw [hC]; simp [length_wordsOf]
  have hall : C.all (·.oneCell') = true := by rw [hC]; exact all_u64 _
  have hleaf := fun (w : World) => zzSub a0 a1 a2 a3 a4 a5 a6 a7 a8 b0 b1 b2 b3 b4 b5 b6 b7 b8 ha hb lta ltb w
  rw [← hC] at hleaf
  rw [← hC]
  have HL := Lib.hid hleaf
  clear hleaf hC ha hb lta ltb
  have hinf := Lib.hid info_a; have Hs := Lib.hid hsz; have Ha := Lib.hid hall
  clear hsz hall
  go_enter Try.func13, Try.ntmps13
  go_wp2_with fail
  refine (HL.out _).mono ?_
  rintro e w1 ⟨rfl, hb1⟩
  have hres : w1.heap[w.heap.size + 1 + 1]? = some (.cells #[.int .u64 0, .int .u64 0, .int .u64 0, .int .u64 0, .int .u64 0, .int .u64 0, .int .u64 0, .int .u64 0, .int .u64 0] 23 (0, 0)) := below_at hb1 (by simp <;> omega) (by exact blk_new _ _ (by simp <;> omega))
  have hbel : Below w.heap.size w w1 := (((((Below.refl _ _).alloc (Nat.le_refl _) _)).alloc (by simp <;> omega) _).alloc (by simp <;> omega) _).trans (hb1.mono (by simp <;> omega))
  have Hres := Lib.hid hres
  have Hbel := Lib.hid hbel
  clear hb1 hres hbel
  go_wp2_with (refine wpList_store_row rfl 23 (.tmp 4) (.tmp 7) rfl (w.heap.size + 1 + 1) _ rfl rfl 23 _ Hres.out (hinf.out.trans (by rw [Hs.out])) (by rw [Hs.out]; rfl) Ha.out ?_)
  exact bodyPost_ret (results_cell_row Try.results13 _ _ (w.heap.size + 1 + 1) 23 _ (0, 0) _ rfl (setRow_heap _ _ _ _ _ _ Hres.out) Try.underlying23 rfl (hinf.out.trans (by rw [Hs.out]))) rfl ⟨rfl, below_setRow Hbel.out (by omega) _⟩

set_option maxHeartbeats 1000000 in
theorem zzSelect (a0 a1 a2 a3 a4 a5 a6 a7 a8 b0 b1 b2 b3 b4 b5 b6 b7 b8 : Nat) (ha : Ws [a0, a1, a2, a3, a4, a5, a6, a7, a8]) (hb : Ws [b0, b1, b2, b3, b4, b5, b6, b7, b8]) (cond : Nat) (hc : cond ≤ 1) (w : World) :
    Calls Try.prog 14 #[.int .u64 cond, .agg #[.int .u64 a0, .int .u64 a1, .int .u64 a2, .int .u64 a3, .int .u64 a4, .int .u64 a5, .int .u64 a6, .int .u64 a7, .int .u64 a8], .agg #[.int .u64 b0, .int .u64 b1, .int .u64 b2, .int .u64 b3, .int .u64 b4, .int .u64 b5, .int .u64 b6, .int .u64 b7, .int .u64 b8]] w fun e w' => e = .returned (.agg ((if cond = 0 then [a0, a1, a2, a3, a4, a5, a6, a7, a8] else [b0, b1, b2, b3, b4, b5, b6, b7, b8]).map u64).toArray) ∧ Below w.heap.size w w' := by
  obtain ⟨C, hC⟩ : ∃ C : Array Value, C = ((if cond = 0 then [a0, a1, a2, a3, a4, a5, a6, a7, a8] else [b0, b1, b2, b3, b4, b5, b6, b7, b8]).map u64).toArray := ⟨_, rfl⟩
  have hsz : C.size = 9 := by rw [hC]; split <;> rfl
  have hall : C.all (·.oneCell') = true := by rw [hC]; exact all_u64 _
  have hleaf := fun (w : World) (gz gx gy : Nat) => leafSelect w gz gx gy [a0, a1, a2, a3, a4, a5, a6, a7, a8] [b0, b1, b2, b3, b4, b5, b6, b7, b8] rfl rfl ha hb cond hc
  rw [← hC] at hleaf
  rw [← hC]
  have HL := Lib.hid hleaf
  clear hleaf hC ha hb hc
  have hinf := Lib.hid info_a; have Hs := Lib.hid hsz; have Ha := Lib.hid hall
  clear hsz hall
  go_enter Try.func14, Try.ntmps14
  go_wp2_with fail
  refine (HL.out _ _ _ _ ?nd ?hz ?h0 ?h1).mono ?_
  case nd => simp <;> omega
  case hz => exact blk_new _ _ (by simp <;> omega)
  case h0 => rw [blk_old _ _ (by simp <;> omega), blk_old _ _ (by simp <;> omega), blk_old _ _ (by simp <;> omega)]; exact blk_new _ _ (by simp <;> omega)
  case h1 => rw [blk_old _ _ (by simp <;> omega), blk_old _ _ (by simp <;> omega)]; exact blk_new _ _ (by simp <;> omega)
  rintro e w1 ⟨rfl, hw⟩
  have hres : w1.heap[w.heap.size + 1 + 1]? = some (.cells #[.int .u64 0, .int .u64 0, .int .u64 0, .int .u64 0, .int .u64 0, .int .u64 0, .int .u64 0, .int .u64 0, .int .u64 0] 23 (0, 0)) := by
    rw [hw.old _ (by simp <;> omega) (by omega)]
    rw [blk_old _ _ (by simp <;> omega)]; exact blk_new _ _ (by simp <;> omega)
  have hbel : Below w.heap.size w w1 := below_wrote ((((((Below.refl _ _).alloc (Nat.le_refl _) _)).alloc (by simp <;> omega) _).alloc (by simp <;> omega) _).alloc (by simp <;> omega) _) hw (by simp <;> omega) (by omega)
  have hblk := Lib.hid hw.blk
  have Hres := Lib.hid hres
  have Hbel := Lib.hid hbel
  clear hw hres hbel
  go_wp2_with (first | (refine wpList_load_row rfl 23 (.tmp 7) rfl (w.heap.size + 1 + 1 + 1) rfl 23 _ (0, 0) _ hblk.out Try.underlying23 rfl (hinf.out.trans (by rw [Hs.out])) ?_) | (refine wpList_store_row rfl 23 (.tmp 6) (.tmp 10) rfl (w.heap.size + 1 + 1) _ rfl rfl 23 _ Hres.out (hinf.out.trans (by rw [Hs.out])) (by rw [Hs.out]; rfl) Ha.out ?_))
  exact bodyPost_ret (results_cell_row Try.results14 _ _ (w.heap.size + 1 + 1) 23 _ (0, 0) _ rfl (setRow_heap _ _ _ _ _ _ Hres.out) Try.underlying23 rfl (hinf.out.trans (by rw [Hs.out]))) rfl ⟨rfl, below_setRow Hbel.out (by omega) _⟩

set_option maxHeartbeats 1000000 in
theorem implSelect (a0 a1 a2 a3 a4 a5 a6 a7 a8 b0 b1 b2 b3 b4 b5 b6 b7 b8 : Nat) (ha : Ws [a0, a1, a2, a3, a4, a5, a6, a7, a8]) (hb : Ws [b0, b1, b2, b3, b4, b5, b6, b7, b8]) (cond : Nat) (hc : cond ≤ 1) (w : World) :
    Calls Try.prog 7 #[.int .u64 cond, .agg #[.int .u64 a0, .int .u64 a1, .int .u64 a2, .int .u64 a3, .int .u64 a4, .int .u64 a5, .int .u64 a6, .int .u64 a7, .int .u64 a8], .agg #[.int .u64 b0, .int .u64 b1, .int .u64 b2, .int .u64 b3, .int .u64 b4, .int .u64 b5, .int .u64 b6, .int .u64 b7, .int .u64 b8]] w fun e w' => e = .returned (.agg ((if cond = 0 then [a0, a1, a2, a3, a4, a5, a6, a7, a8] else [b0, b1, b2, b3, b4, b5, b6, b7, b8]).map u64).toArray) ∧ Below w.heap.size w w' := by
  obtain ⟨C, hC⟩ : ∃ C : Array Value, C = ((if cond = 0 then [a0, a1, a2, a3, a4, a5, a6, a7, a8] else [b0, b1, b2, b3, b4, b5, b6, b7, b8]).map u64).toArray := ⟨_, rfl⟩
  have hsz : C.size = 9 := by rw [hC]; split <;> rfl
  have hall : C.all (·.oneCell') = true := by rw [hC]; exact all_u64 _
  have hleaf := fun (w : World) => zzSelect a0 a1 a2 a3 a4 a5 a6 a7 a8 b0 b1 b2 b3 b4 b5 b6 b7 b8 ha hb cond hc w
  rw [← hC] at hleaf
  rw [← hC]
  have HL := Lib.hid hleaf
  clear hleaf hC ha hb hc
  have hinf := Lib.hid info_a; have Hs := Lib.hid hsz; have Ha := Lib.hid hall
  clear hsz hall
  go_enter Try.func7, Try.ntmps7
  go_wp2_with fail
  refine (HL.out _).mono ?_
  rintro e w1 ⟨rfl, hb1⟩
  have hres : w1.heap[w.heap.size + 1 + 1]? = some (.cells #[.int .u64 0, .int .u64 0, .int .u64 0, .int .u64 0, .int .u64 0, .int .u64 0, .int .u64 0, .int .u64 0, .int .u64 0] 23 (0, 0)) := below_at hb1 (by simp <;> omega) (by exact blk_new _ _ (by simp <;> omega))
  have hbel : Below w.heap.size w w1 := (((((Below.refl _ _).alloc (Nat.le_refl _) _)).alloc (by simp <;> omega) _).alloc (by simp <;> omega) _).trans (hb1.mono (by simp <;> omega))
  have Hres := Lib.hid hres
  have Hbel := Lib.hid hbel
  clear hb1 hres hbel
  go_wp2_with (refine wpList_store_row rfl 23 (.tmp 6) (.tmp 10) rfl (w.heap.size + 1 + 1) _ rfl rfl 23 _ Hres.out (hinf.out.trans (by rw [Hs.out])) (by rw [Hs.out]; rfl) Ha.out ?_)
  exact bodyPost_ret (results_cell_row Try.results7 _ _ (w.heap.size + 1 + 1) 23 _ (0, 0) _ rfl (setRow_heap _ _ _ _ _ _ Hres.out) Try.underlying23 rfl (hinf.out.trans (by rw [Hs.out]))) rfl ⟨rfl, below_setRow Hbel.out (by omega) _⟩

end Go.Proofs.Ytnpeilpnpedmcaa
