/-
  The symbolic execution is sound: each operation, a region in whatever order it draws, a body, a call.
-/
import Derived.Test.YtnpeilpnpedmcaaExec
import Derived.Tactics
namespace Go.Proofs.Ytnpeilpnpedmcaa.Sym
open Go.RowKit

section
variable {P : Program} {cx : Cx} {E : Env} {n : Nat} {st : St} {a : Act} {w w0 : World} {base npar : Nat}

theorem u64_wrap (x : Nat) : IntKind.u64.wrap (x : Int) = ((x % 18446744073709551616 : Nat) : Int) := by
  simp [IntKind.wrap, IntKind.signed, IntKind.bits]
theorem u8_wrap (x : Nat) : IntKind.u8.wrap (x : Int) = ((x % 256 : Nat) : Int) := by
  simp [IntKind.wrap, IntKind.signed, IntKind.bits]

theorem run_underlying {t : TypeId} {d : TypeDesc} (h : P.underlying t = some d) : (underlying t).run P w = .ok d w := by
  simp [underlying, h]
theorem run_sizeOf {t : TypeId} {i : TypeInfo} (h : P.info? t = some i) : (sizeOf t).run P w = .ok i.size w := by
  simp [sizeOf, typeInfo, h]

theorem run_loadAt {t : TypeId} {k : IntKind} {ad : Addr} {v : Value} (ht : P.underlying t = some (.int k)) (hc : w.cell? ad = some v) :
    (Instr.loadAt t (.pointer (some ad))).run P w = .ok v w := by
  simp [Instr.loadAt, Instr.sureAddr, loadVar, isAgg, run_underlying ht, hc]

theorem run_indexAt {t e : TypeId} {m o i : Nat} {inf : TypeInfo} {g : Nat} (ht : P.underlying t = some (.array m e)) (he : P.info? e = some inf) (hs : inf.size = 1) (hi : i < m) :
    (Instr.indexAt t (.pointer (some ⟨g, o, none⟩)) (.int .i64 (.ofNat i))).run P w = .ok (.pointer (some ⟨g, o + i, none⟩)) w := by
  have h1 : (0 : Int) ≤ (i : Int) ∧ (i : Int) < (m : Int) := by omega
  have h2 : (i : Int).toNat = i := by simp
  show (Instr.indexAt t (.pointer (some ⟨g, o, none⟩)) (.int .i64 (i : Int))).run P w = _
  simp [Instr.indexAt, asIntOf, Instr.sureAddr, run_underlying ht, run_sizeOf he, hs, h1, Addr.add]
  by_cases h0 : i = 0
  · subst h0; simp; omega
  · simp [h0]; omega

theorem bits_and64 (x y : Int) : Op.intBits .and .u64 x y = pure (.int .u64 (IntKind.u64.wrap ((BitVec.ofInt 64 x &&& BitVec.ofInt 64 y).toNat : Int))) := rfl
theorem bits_and8 (x y : Int) : Op.intBits .and .u8 x y = pure (.int .u8 (IntKind.u8.wrap ((BitVec.ofInt 8 x &&& BitVec.ofInt 8 y).toNat : Int))) := rfl
theorem run_and64 (x y : Nat) (hx : x < 18446744073709551616) (hy : y < 18446744073709551616) (t : TypeId) :
    (binOp .and t (.int .u64 x) (.int .u64 y)).run P w = .ok (.int .u64 ((x &&& y : Nat) : Int)) w := by
  have e : x &&& y < 18446744073709551616 := Nat.lt_of_le_of_lt Nat.and_le_left hx
  have e3 : (BitVec.ofInt 64 (x : Int)).toNat = x := by simp only [BitVec.ofInt_natCast, BitVec.toNat_ofNat]; exact Nat.mod_eq_of_lt hx
  have e4 : (BitVec.ofInt 64 (y : Int)).toNat = y := by simp only [BitVec.ofInt_natCast, BitVec.toNat_ofNat]; exact Nat.mod_eq_of_lt hy
  simp only [binOp, ne_eq, not_true_eq_false, if_false, bits_and64, Sem.run_pure, u64_wrap, BitVec.toNat_and, e3, e4, Nat.mod_eq_of_lt e]
theorem run_and8 (x : Nat) (t : TypeId) :
    (binOp .and t (.int .u8 x) (.int .u8 255)).run P w = .ok (.int .u8 ((x % 256 : Nat) : Int)) w := by
  have e : x % 256 &&& 255 = x % 256 := by
    have := Nat.and_two_pow_sub_one_eq_mod (x % 256) 8
    simpa using this
  have e2 : (BitVec.ofInt 8 (255 : Int)).toNat = 255 := by decide
  have e3 : (BitVec.ofInt 8 (x : Int)).toNat = x % 256 := by simp [BitVec.ofInt_natCast]
  simp only [binOp, ne_eq, not_true_eq_false, if_false, bits_and8, Sem.run_pure, u8_wrap, BitVec.toNat_and, e2, e3, e, Nat.mod_mod]
theorem run_shr64 (x s : Nat) (hs : s ≤ 63) (t : TypeId) (k : IntKind) :
    (binOp .shr t (.int .u64 x) (.int k s)).run P w = .ok (.int .u64 ((x / 2 ^ s : Nat) : Int)) w := by
  have e : min s 64 = s := by omega
  have e2 : ¬ ((s : Int) < 0) := by omega
  simp only [binOp, Op.shift, e2, if_false, IntKind.bits, Int.toNat_natCast, e, Sem.run_pure]
  congr 2
  rw [Int.fdiv_eq_ediv_of_nonneg _ (by exact Int.pow_nonneg (by decide))]
  simp
theorem run_shl64 (x s : Nat) (hs : s ≤ 63) (t : TypeId) (k : IntKind) :
    (binOp .shl t (.int .u64 x) (.int k s)).run P w = .ok (.int .u64 ((x * 2 ^ s % 18446744073709551616 : Nat) : Int)) w := by
  have e : min s 64 = s := by omega
  have e2 : ¬ ((s : Int) < 0) := by omega
  simp only [binOp, Op.shift, e2, if_false, IntKind.bits, Int.toNat_natCast, e, Sem.run_pure]
  rw [← u64_wrap]
  simp
theorem run_add64w (x y : Nat) (t : TypeId) :
    (binOp .add t (.int .u64 x) (.int .u64 y)).run P w = .ok (.int .u64 (((x + y) % 18446744073709551616 : Nat) : Int)) w := by
  simp only [binOp, Op.intArith, ne_eq, not_true_eq_false, if_false, Sem.run_pure]
  rw [← u64_wrap]
  simp
theorem run_eqGuard {op : BinOp} (ho : op = .and ∨ op = .shr ∨ op = .shl ∨ op = .add) (t : TypeId) (x y : Operand) (u v : Value) :
    (eqGuard op t x y u v).run P w = .ok () w := by
  rcases ho with rfl | rfl | rfl | rfl <;> rfl
theorem run_convert8 {s d : TypeId} {k : IntKind} (hs : P.underlying s = some (.int k)) (hd : P.underlying d = some (.int .u8)) (k' : IntKind) (x : Nat) :
    (convert s d (.int k' x)).run P w = .ok (.int .u8 ((x % 256 : Nat) : Int)) w := by
  simp only [convert, Sem.run_bind, run_underlying hs, run_underlying hd, Result.andThen_ok, Conv.intToInt, Sem.run_pure, u8_wrap]
theorem run_convert64 {s d : TypeId} {k : IntKind} (hs : P.underlying s = some (.int k)) (hd : P.underlying d = some (.int .u64)) (k' : IntKind) (x : Nat) (hx : x < 18446744073709551616) :
    (convert s d (.int k' x)).run P w = .ok (.int .u64 (x : Int)) w := by
  simp only [convert, Sem.run_bind, run_underlying hs, run_underlying hd, Result.andThen_ok, Conv.intToInt, Sem.run_pure, u64_wrap, Nat.mod_eq_of_lt hx]

theorem den_p (g f : Nat) : (SV.p g f).den E = .pointer (some ⟨E.loc g, f, none⟩) := rfl
theorem eval_const (a : Act) (v : Value) : a.eval (.const v) = v := rfl
theorem eval_func (a : Act) (f : FuncId) : a.eval (.func f) = .func (.func f) #[] #[] := rfl

theorem scal (F : Facts P cx) {t : TypeId} (h : (mem cx.words t || mem cx.bytes t) = true) : ∃ k i, P.underlying t = some (.int k) ∧ P.info? t = some i ∧ i.size = 1 := by
  simp only [Bool.or_eq_true] at h
  rcases h with h | h
  · obtain ⟨h1, i, h2, h3, _⟩ := F.word t (mem_of h)
    exact ⟨_, i, h1, h2, h3⟩
  · obtain ⟨h1, i, h2, h3⟩ := F.byte t (mem_of h)
    exact ⟨_, i, h1, h2, h3⟩

set_option maxHeartbeats 1000000 in
theorem val_sound (F : Facts P cx) (hA : ARel E n st.regs a) (hW : WRel E w0 base npar st.heap w) {o : Oper} {s : SV} {rs : List R} {m : Nat}
    (h : val cx st o.op = some (s, rs, m)) (hR : ∀ r ∈ rs, r.holds E.v) : (execOp a.eval o).run P w = .ok (.value (s.den E)) w := by
  unfold val at h
  split at h
  · -- move
    rename_i x hop
    cases hx : opd st x with
    | none => simp [hx] at h
    | some s' =>
      simp only [hx, Option.map_some, Option.some.injEq, Prod.mk.injEq] at h
      obtain ⟨rfl, rfl, rfl⟩ := h
      simp [execOp, hop, hA.opd rfl hx]
  · -- assign
    rename_i x hop
    cases hx : opd st x with
    | none => simp [hx] at h
    | some s' =>
      simp only [hx, Option.map_some, Option.some.injEq, Prod.mk.injEq] at h
      obtain ⟨rfl, rfl, rfl⟩ := h
      simp [execOp, hop, hA.opd rfl hx]
  · -- nilCheck
    rename_i x hop
    split at h
    · rename_i g f hx
      simp only [Option.some.injEq, Prod.mk.injEq] at h
      obtain ⟨rfl, rfl, rfl⟩ := h
      simp [execOp, hop, hA.opd rfl hx, SV.den]
    · cases h
  · -- indexAddr
    rename_i t x i hop
    split at h
    · rename_i g f m' hx hl
      split at h
      · rename_i hlt
        simp only [Option.some.injEq, Prod.mk.injEq] at h
        obtain ⟨rfl, rfl, rfl⟩ := h
        obtain ⟨e, inf, h1, h2, h3⟩ := F.arr t m' (len_of hl)
        have := run_indexAt (w := w) (g := E.loc g) (o := f) h1 h2 h3 hlt
        simp only [execOp, hop, hA.opd rfl hx, SV.den, eval_const, Sem.run_bind, this, Result.andThen_ok, Sem.run_pure]
      · cases h
    · cases h
  · -- load
    rename_i t x hop
    split at h
    · rename_i g f hx hm
      cases hg : st.heap[g]? with
      | none => simp [hg] at h
      | some c =>
        obtain ⟨c, ty⟩ := c
        cases hc : c[f]? with
        | none => simp [hg, hc] at h
        | some s' =>
          simp only [hg, hc, Option.bind_some, Option.map_some, Option.some.injEq, Prod.mk.injEq] at h
          obtain ⟨rfl, rfl, rfl⟩ := h
          obtain ⟨k, i, h1, _, _⟩ := scal F hm
          have := run_loadAt (P := P) (w := w) h1 (hW.cell hg hc)
          simp only [execOp, hop, hA.opd rfl hx, SV.den, Sem.run_bind, this, Result.andThen_ok, Sem.run_pure]
    · cases h
  · -- extract
    rename_i x k hop
    split at h
    · rename_i i j hx
      simp only [Option.some.injEq, Prod.mk.injEq] at h
      obtain ⟨rfl, rfl, rfl⟩ := h
      simp [execOp, hop, hA.opd rfl hx, SV.den, Instr.extract]
    · rename_i i j hx
      simp only [Option.some.injEq, Prod.mk.injEq] at h
      obtain ⟨rfl, rfl, rfl⟩ := h
      simp [execOp, hop, hA.opd rfl hx, SV.den, Instr.extract]
    · cases h
  · -- call
    rename_i f x y z ty hop
    split at h
    · rename_i x' y' z' hx hy hz
      have ex := hA.word rfl hx
      have ey := hA.word rfl hy
      have ez := hA.word rfl hz
      split at h
      · rename_i hf
        rw [beq_eq] at hf
        simp only [Option.some.injEq, Prod.mk.injEq] at h
        obtain ⟨rfl, rfl, rfl⟩ := h
        have hr := hR _ List.mem_cons_self
        simp only [R.holds] at hr
        have := F.add (x'.val E.v) (y'.val E.v) (z'.val E.v) w hr.1
        simp [execOp, hop, resolve, Deferred.ofValue, invoke, ex.1, ey.1, ez.1, eval_func, hf, this, SV.den, hr.2.1, hr.2.2]
      · rename_i hf
        rw [beq_eq] at hf
        simp only [Option.some.injEq, Prod.mk.injEq] at h
        obtain ⟨rfl, rfl, rfl⟩ := h
        have hr := hR _ List.mem_cons_self
        simp only [R.holds, bor] at hr
        have := F.sub (x'.val E.v) (y'.val E.v) (z'.val E.v) w hr.1
        simp [execOp, hop, resolve, Deferred.ofValue, invoke, ex.1, ey.1, ez.1, eval_func, hf, this, SV.den, hr.2.1, hr.2.2]
      · cases h
    · cases h
  · -- and
    rename_i t x y t' hop
    split at h
    · rename_i x' y' hx hy
      simp only [Option.some.injEq, Prod.mk.injEq] at h
      obtain ⟨rfl, rfl, rfl⟩ := h
      have hr := hR _ List.mem_cons_self
      simp only [R.holds] at hr
      have ex := hA.word rfl hx
      have ey := hA.word rfl hy
      simp only [execOp, hop, ex.1, ey.1, Sem.run_bind, run_eqGuard (.inl rfl), run_and64 _ _ ex.2 ey.2, Result.andThen_ok, Sem.run_pure, SV.den, hr]
    · split at h
      · rename_i x' hx hy
        simp only [Option.some.injEq, Prod.mk.injEq] at h
        obtain ⟨rfl, rfl, rfl⟩ := h
        have hr := hR _ List.mem_cons_self
        simp only [R.holds] at hr
        have ex := hA.byte rfl hx
        have ey := (hA.byte rfl hy).1
        simp only [A.val, Int.cast_ofNat_Int] at ey
        simp only [execOp, hop, ex.1, ey, Sem.run_bind, run_eqGuard (.inl rfl), run_and8, Result.andThen_ok, Sem.run_pure, SV.den, hr]
      · cases h
  · -- shr
    rename_i t x y t' hop
    split at h
    · rename_i x' k hx hy
      split at h
      · rename_i hk
        simp only [Option.some.injEq, Prod.mk.injEq] at h
        obtain ⟨rfl, rfl, rfl⟩ := h
        have hr := hR _ List.mem_cons_self
        simp only [R.holds] at hr
        have ex := hA.word rfl hx
        have ey := (hA.word rfl hy).1
        simp only [A.val] at ey
        simp only [execOp, hop, ex.1, ey, Sem.run_bind, run_eqGuard (.inr (.inl rfl)), run_shr64 _ _ hk, Result.andThen_ok, Sem.run_pure, SV.den, hr]
      · cases h
    · cases h
  · -- shl
    rename_i t x y t' hop
    split at h
    · rename_i x' k hx hy
      split at h
      · rename_i hk
        simp only [Option.some.injEq, Prod.mk.injEq] at h
        obtain ⟨rfl, rfl, rfl⟩ := h
        have hr := hR _ List.mem_cons_self
        simp only [R.holds] at hr
        have ex := hA.word rfl hx
        have ey := (hA.word rfl hy).1
        simp only [A.val] at ey
        simp only [execOp, hop, ex.1, ey, Sem.run_bind, run_eqGuard (.inr (.inr (.inl rfl))), run_shl64 _ _ hk, Result.andThen_ok, Sem.run_pure, SV.den, hr]
      · cases h
    · cases h
  · -- add
    rename_i t x y t' hop
    split at h
    · rename_i x' y' hx hy
      simp only [Option.some.injEq, Prod.mk.injEq] at h
      obtain ⟨rfl, rfl, rfl⟩ := h
      have hr := hR _ List.mem_cons_self
      simp only [R.holds] at hr
      have ex := hA.word rfl hx
      have ey := hA.word rfl hy
      simp only [execOp, hop, ex.1, ey.1, Sem.run_bind, run_eqGuard (.inr (.inr (.inr rfl))), run_add64w, Result.andThen_ok, Sem.run_pure, SV.den, hr]
    · cases h
  · -- convert
    rename_i s' d x hop
    split at h
    · rename_i x' hd hs hx
      simp only [Option.some.injEq, Prod.mk.injEq] at h
      obtain ⟨rfl, rfl, rfl⟩ := h
      have hr := hR _ List.mem_cons_self
      simp only [R.holds] at hr
      have ex := hA.word rfl hx
      obtain ⟨k, i, h1, _, _⟩ := scal F hs
      simp only [execOp, hop, ex.1, Sem.run_bind, run_convert8 h1 (F.byte d (mem_of hd)).1, Result.andThen_ok, Sem.run_pure, SV.den, hr]
    · split at h
      · rename_i i' hd hs hx
        simp only [Option.some.injEq, Prod.mk.injEq] at h
        obtain ⟨rfl, rfl, rfl⟩ := h
        obtain ⟨k, i, h1, _, _⟩ := scal F hs
        simp only [execOp, hop, hA.opd rfl hx, SV.den, Sem.run_bind, run_convert64 h1 (F.word d (mem_of hd)).1 _ _ (E.lt _), Result.andThen_ok, Sem.run_pure]
      · rename_i i' hd hs hx
        simp only [Option.some.injEq, Prod.mk.injEq] at h
        obtain ⟨rfl, rfl, rfl⟩ := h
        obtain ⟨k, i, h1, _, _⟩ := scal F hs
        simp only [execOp, hop, hA.opd rfl hx, SV.den, Sem.run_bind, run_convert64 h1 (F.word d (mem_of hd)).1 _ _ (E.lt _), Result.andThen_ok, Sem.run_pure]
      · cases h
  · cases h

/-- The rule of one operation that leaves memory alone. -/
theorem still_sound (F : Facts P cx) (hA : ARel E n st.regs a) (hW : WRel E w0 base npar st.heap w) {o : Oper} {st1 : St} {rs : List R}
    (h : still cx n st o = some (st1, rs)) (hR : ∀ r ∈ rs, r.holds E.v) :
    o.guard = none ∧ st1.heap = st.heap ∧ ∃ v, (execOp a.eval o).run P w = .ok (.value v) w ∧ ARel E n st1.regs (a.put o.dst v) := by
  unfold still at h
  split at h
  · cases h
  · rename_i hg
    split at h
    · cases h
    · rename_i s rs' m hv
      split at h
      · cases h
      · rename_i regs hp
        simp only [Option.some.injEq, Prod.mk.injEq] at h
        obtain ⟨rfl, rfl⟩ := h
        exact ⟨hg, rfl, _, val_sound F hA hW hv hR, hA.put hp⟩

theorem run_storeAt {t : TypeId} {i : TypeInfo} {ad : Addr} {v old : Value} (hi : P.info? t = some i) (hs : i.size = 1) (hv : v.cells = #[v]) (h1 : v.oneCell' = true) (hc : w.cell? ad = some old) (hf : w.frozen? ad = false) :
    (Instr.storeAt t (.pointer (some ad)) v).run P w = .ok () (w.setCell ad v) := by
  have e : ad.add 0 = ad := by simp [Addr.add]
  simp only [Instr.storeAt, Instr.sureAddr, storeVar, Sem.run_bind, Sem.run_pure, Result.andThen_ok, run_sizeOf hi, hv, hs]
  simp [storeCells, e, run_store P w ad v .plain h1, hc, hf]

theorem den_cells {s : SV} (h : oneCell s = true) : (s.den E).cells = #[s.den E] ∧ (s.den E).oneCell' = true := by
  cases s <;> simp [oneCell] at h <;> exact ⟨rfl, rfl⟩

theorem eff_sound (F : Facts P cx) (l : LRel E base npar) (hA : ARel E n st.regs a) (hW : WRel E w0 base npar st.heap w) {o : Oper} {st1 : St} {rs : List R}
    (h : eff cx n st o = some (st1, rs)) (hR : ∀ r ∈ rs, r.holds E.v) {K : Act → World → Prop} {Q : Exit → Act → World → Prop}
    (hK : ∀ a' w', ARel E n st1.regs a' → WRel E w0 base npar st1.heap w' → K a' w') : o.guard = none ∧ o.wp P a w K Q := by
  unfold eff at h
  split at h
  · cases h
  · rename_i hg
    refine ⟨hg, ?_⟩
    split at h
    · -- alloc
      rename_i t hop
      split at h
      · rename_i regs ht hp
        simp only [Option.some.injEq, Prod.mk.injEq] at h
        obtain ⟨rfl, rfl⟩ := h
        obtain ⟨_, i, h2, h3, h4⟩ := F.word t (mem_of ht)
        have hal := hW.alloc l [SV.k (.int .u64 0)] t
        have hrun : (execOp a.eval o).run P w = .ok (.value (.pointer (some ⟨w.heap.size, 0, none⟩))) (w.alloc (.cells #[.int .u64 0] t)) := by
          simp [execOp, hop, Instr.alloc, zeroValue, typeInfo, h2, h4, newVar, newRow, Value.cells]
        unfold Oper.wp
        rw [hrun, Oper.upon_value]
        refine hK _ _ ?_ hal.1
        have := hA.put hp
        simp only [SV.den] at this
        rw [hal.2]
        exact this
      · cases h
    · -- store
      rename_i t x y hop
      split at h
      · rename_i g f s ht hx hy hd
        split at h
        · rename_i heap h1 hs
          simp only [Option.some.injEq, Prod.mk.injEq] at h
          obtain ⟨rfl, rfl⟩ := h
          obtain ⟨k, i, _, h3, h4⟩ := scal F ht
          obtain ⟨hW', ⟨old, hc⟩, hf⟩ := hW.set l hs
          have hcs := den_cells (E := E) h1
          have hrun : (execOp a.eval o).run P w = .ok .skip (w.setCell ⟨E.loc g, f, none⟩ (s.den E)) := by
            simp only [execOp, hop, hA.opd rfl hx, hA.opd rfl hy, den_p, Sem.run_bind, run_storeAt h3 h4 hcs.1 hcs.2 hc hf, Result.andThen_ok, Sem.run_pure]
          unfold Oper.wp
          rw [hrun, Oper.upon_skip, hd]
          exact hK _ _ hA hW'
        · cases h
      · cases h
    · -- cmov
      rename_i f x c y z ty hop
      split at h
      · rename_i g f' c' y' z' hf hx hc hy hz
        split at h
        · rename_i heap regs hs hp
          simp only [Option.some.injEq, Prod.mk.injEq] at h
          obtain ⟨rfl, rfl⟩ := h
          rw [beq_eq] at hf
          have ec := hA.word rfl hc
          have ey := hA.word rfl hy
          have ez := hA.word rfl hz
          have hr := hR _ List.mem_cons_self
          simp only [R.holds, sel] at hr
          obtain ⟨hW', ⟨old, hcell⟩, hfr⟩ := hW.set l hs
          have hrun : (execOp a.eval o).run P w = .ok (.enter cx.cmov #[.pointer (some ⟨E.loc g, f', none⟩), .int .u64 (c'.val E.v : Int), .int .u64 (y'.val E.v : Int), .int .u64 (z'.val E.v : Int)]) w := by
            simp [execOp, hop, resolve, Deferred.ofValue, invoke, hA.opd rfl hx, ec.1, ey.1, ez.1, eval_func, hf, F.enter, SV.den]
          unfold Oper.wp
          rw [hrun, Oper.upon_enter]
          refine (F.cmov _ _ _ _ old w hr.1 ey.2 ez.2 hcell hfr).mono ?_
          rintro e w' ⟨rfl, rfl⟩
          have h2 := hA.put hp
          simp only [undefS, SV.den] at h2
          refine hK _ _ h2 ?_
          simp only [SV.den, hr.2] at hW'
          exact hW'
        · cases h
      · cases h
    · cases h

theorem stills_sound (F : Facts P cx) {ops : Array Oper} {Q : Act → Prop} : ∀ (l : List Oper) (st st1 : St) (rs : List R) (a : Act),
    ARel E n st.regs a → WRel E w0 base npar st.heap w → stills cx n l st = some (st1, rs) → (∀ r ∈ rs, r.holds E.v) →
    (∀ a', ARel E n st1.regs a' → st1.heap = st.heap → Q a') → wpStill P ops w Q l a
  | [], st, st1, rs, a, hA, hW, h, hR, hQ => by
    simp only [stills, Option.some.injEq, Prod.mk.injEq] at h
    obtain ⟨rfl, rfl⟩ := h
    exact hQ a hA rfl
  | o :: l, st, st1, rs, a, hA, hW, h, hR, hQ => by
    unfold stills at h
    split at h
    · cases h
    · rename_i sm r1 h1
      split at h
      · cases h
      · rename_i s2 r2 h2
        simp only [Option.some.injEq, Prod.mk.injEq] at h
        obtain ⟨rfl, rfl⟩ := h
        obtain ⟨hg, hh, v, hrun, hA'⟩ := still_sound F hA hW h1 (fun r hr => hR r (List.mem_append_left _ hr))
        unfold wpStill
        rw [if_pos (by simp [Region.wanted, hg])]
        unfold Oper.still
        rw [hrun, Oper.stillUpon_value]
        exact stills_sound F l sm _ r2 _ hA' (hh ▸ hW) h2 (fun r hr => hR r (List.mem_append_right _ hr)) (fun a' ha he => hQ a' ha (he.trans hh))

theorem anys_sound (F : Facts P cx) (lr : LRel E base npar) {ops : Array Oper} {Q : Exit → Act → World → Prop} : ∀ (l : List Oper) (st st1 : St) (rs : List R) (a : Act) (w : World),
    ARel E n st.regs a → WRel E w0 base npar st.heap w → anys cx n l st = some (st1, rs) → (∀ r ∈ rs, r.holds E.v) →
    (∀ a' w', ARel E n st1.regs a' → WRel E w0 base npar st1.heap w' → Q .normal a' w') → wpList P ops Q l a w
  | [], st, st1, rs, a, w, hA, hW, h, hR, hQ => by
    simp only [anys, Option.some.injEq, Prod.mk.injEq] at h
    obtain ⟨rfl, rfl⟩ := h
    exact hQ a w hA hW
  | o :: l, st, st1, rs, a, w, hA, hW, h, hR, hQ => by
    unfold anys at h
    split at h
    · cases h
    · rename_i sm r1 h1
      split at h
      · cases h
      · rename_i s2 r2 h2
        simp only [Option.some.injEq, Prod.mk.injEq] at h
        obtain ⟨rfl, rfl⟩ := h
        have hR1 : ∀ r ∈ r1, r.holds E.v := fun r hr => hR r (List.mem_append_left _ hr)
        have hR2 : ∀ r ∈ r2, r.holds E.v := fun r hr => hR r (List.mem_append_right _ hr)
        split at h1
        · rename_i x hx
          simp only [Option.some.injEq] at h1
          subst h1
          obtain ⟨hg, hh, v, hrun, hA'⟩ := still_sound F hA hW hx hR1
          refine wpList_plain hg fun K hK => ?_
          unfold Oper.wp
          rw [hrun, Oper.upon_value]
          exact hK _ _ (anys_sound F lr l sm _ r2 _ w hA' (hh ▸ hW) h2 hR2 hQ)
        · obtain ⟨hg, _⟩ := eff_sound (K := fun _ _ => True) (Q := fun _ _ _ => True) F lr hA hW h1 hR1 (fun _ _ _ _ => trivial)
          refine wpList_plain hg fun K hK => ?_
          exact (eff_sound F lr hA hW h1 hR1 fun a' w' ha hw => hK _ _ (anys_sound F lr l sm _ r2 a' w' ha hw h2 hR2 hQ)).2

theorem region_sound (F : Facts P cx) (lr : LRel E base npar) {id : Nat} {ops : Array Oper} {draw : Bool} {Q : Exit → Act → World → Prop} {st st1 : St} {rs : List R} {a : Act} {w : World}
    (hA : ARel E n st.regs a) (hW : WRel E w0 base npar st.heap w) (h : region cx n ops.toList draw st = some (st1, rs)) (hR : ∀ r ∈ rs, r.holds E.v)
    (hQ : ∀ a' w', ARel E n st1.regs a' → WRel E w0 base npar st1.heap w' → Q .normal a' w') : (Code.region id ops draw).wp P Q a w := by
  unfold region at h
  split at h
  · exact wp_region_list (anys_sound F lr _ _ _ _ _ _ hA hW h hR hQ)
  · split at h
    · rename_i x hB hx
      simp only [Option.some.injEq] at h
      subst h
      refine wp_region_still F.mixed (by simpa using hB) ?_
      exact stills_sound F _ _ _ _ _ hA hW.drew hx hR fun a' ha he => hQ _ _ ha (he ▸ hW.drew)
    · split at h
      · cases h
      · rename_i hB
        split at h
        · cases h
        · rename_i sm r1 h1
          split at h
          · cases h
          · rename_i s2 r2 h2
            simp only [Option.some.injEq, Prod.mk.injEq] at h
            obtain ⟨rfl, rfl⟩ := h
            have := wp_region_still_tail (P := P) (id := id) (Q := Q) (a := a) (w := w) (l := ops.toList) (ops.toList.length - 1) F.mixed hB
              (stills_sound F _ _ _ _ _ hA hW.drew h1 (fun r hr => hR r (List.mem_append_left _ hr)) fun a' ha he =>
                anys_sound F lr _ _ _ _ _ _ ha (he ▸ hW.drew) h2 (fun r hr => hR r (List.mem_append_right _ hr)) hQ)
            simpa using this

theorem body_sound (F : Facts P cx) (lr : LRel E base npar) {Q : Exit → Act → World → Prop} : ∀ (c : Code) (st st1 : St) (rs : List R) (a : Act) (w : World),
    ARel E n st.regs a → WRel E w0 base npar st.heap w → body cx n c st = some (st1, rs) → (∀ r ∈ rs, r.holds E.v) →
    (∀ a' w', ARel E n st1.regs a' → WRel E w0 base npar st1.heap w' → Q .normal a' w' ∧ Q .ret a' w') → c.wp P Q a w := by
  intro c
  induction c with
  | seq x y _ ihy =>
    intro st st1 rs a w hA hW h hR hQ
    cases x with
    | region id ops draw =>
      simp only [body] at h
      split at h
      · cases h
      · rename_i sm r1 h1
        split at h
        · cases h
        · rename_i s2 r2 h2
          simp only [Option.some.injEq, Prod.mk.injEq] at h
          obtain ⟨rfl, rfl⟩ := h
          refine wp_seq (region_sound F lr hA hW h1 (fun r hr => hR r (List.mem_append_left _ hr)) fun a' w' ha hw => ?_)
          exact ihy _ _ _ _ _ ha hw h2 (fun r hr => hR r (List.mem_append_right _ hr)) hQ
    | _ => simp [body] at h
  | region id ops draw =>
    intro st st1 rs a w hA hW h hR hQ
    exact region_sound F lr hA hW h hR fun a' w' ha hw => (hQ a' w' ha hw).1
  | ret =>
    intro st st1 rs a w hA hW h hR hQ
    simp only [body, Option.some.injEq, Prod.mk.injEq] at h
    obtain ⟨rfl, rfl⟩ := h
    exact wp_ret (hQ a w hA hW).2
  | _ => intro st st1 rs a w hA hW h; simp [body] at h

/-- The slots of a call's arguments. -/
def regsOf : Nat → List SV → List (Nat × SV)
  | _, [] => []
  | i, s :: l => (i, s) :: regsOf (i + 1) l
theorem get_regsOf : ∀ (l : List SV) (i t : Nat) (s : SV), get (regsOf i l) t = some s → i ≤ t ∧ l[t - i]? = some s
  | [], i, t, s, h => by cases h
  | x :: l, i, t, s, h => by
    rw [regsOf, get_cons] at h
    by_cases hit : i = t
    · rw [if_pos hit] at h; cases h; subst hit; exact ⟨Nat.le_refl _, by simp⟩
    · rw [if_neg hit] at h
      obtain ⟨h1, h2⟩ := get_regsOf l (i + 1) t s h
      refine ⟨by omega, ?_⟩
      have : t - i = (t - (i + 1)) + 1 := by omega
      rw [this, List.getElem?_cons_succ]
      exact h2

/-- **A CALL** of a function without results whose body is straight-line code. -/
theorem call_sound (F : Facts P cx) (lr : LRel E base npar) {f : FuncId} {fn : Func} {c : Code} {args : List SV} {heap : List (List SV × TypeId)} {k : Nat} {st1 : St} {rs : List R} {w : World}
    (hf : P.funcs[f]? = some fn) (hb : fn.body = some c) (hn : fn.ntmps = n) (hr : fn.results = #[]) (hlen : args.length ≤ n)
    (h : body cx n c { regs := regsOf 0 args, heap := heap, next := k } = some (st1, rs)) (hR : ∀ r ∈ rs, r.holds E.v) (hW : WRel E w0 base npar heap w) :
    Calls P f (args.map (SV.den E)).toArray w fun e w' => e = .returned (.tuple #[]) ∧ WRel E w0 base npar st1.heap w' := by
  refine calls_of_wp hf hb ?_
  have hA : ARel E n (regsOf 0 args) { tmps := (args.map (SV.den E)).toArray ++ Array.replicate (fn.ntmps - (args.map (SV.den E)).toArray.size) undef, defers := [] } := by
    refine ⟨by simp [hn]; omega, rfl, fun t s ht => ?_⟩
    obtain ⟨_, h2⟩ := get_regsOf args 0 t s ht
    simp only [Nat.sub_zero] at h2
    have hlt : t < args.length := (List.getElem?_eq_some_iff.1 h2).1
    rw [Array.getD_eq_getD_getElem?, Array.getElem?_append_left (by simpa using hlt)]
    simp [h2]
  refine body_sound F lr c _ st1 rs _ w hA hW h hR fun a' w' ha hw => ?_
  have : (results fn a'.tmps).run P w' = .ok (.tuple #[]) w' := results_none hr _ P w'
  exact ⟨⟨ha.defers, _, this, rfl, hw⟩, ⟨ha.defers, _, this, rfl, hw⟩⟩
end
end Go.Proofs.Ytnpeilpnpedmcaa.Sym
