/-
  The symbolic execution itself: operations, regions (also such as draw their order), bodies; and its soundness.
-/
import Derived.Test.YtnpeilpnpedmcaaEng
namespace Go.Proofs.Ytnpeilpnpedmcaa.Sym
open Go.RowKit

structure Cx where
  add : FuncId
  sub : FuncId
  cmov : FuncId
  words : List TypeId
  bytes : List TypeId
  arrs : List (TypeId × Nat)

structure Facts (P : Program) (cx : Cx) : Prop where
  mixed : P.follows .mixedOrders = true
  word : ∀ t, t ∈ cx.words → P.underlying t = some (.int .u64) ∧ ∃ i, P.info? t = some i ∧ i.size = 1 ∧ i.zero = some (.int .u64 0)
  byte : ∀ t, t ∈ cx.bytes → P.underlying t = some (.int .u8) ∧ ∃ i, P.info? t = some i ∧ i.size = 1
  arr : ∀ t n, (t, n) ∈ cx.arrs → ∃ e i, P.underlying t = some (.array n e) ∧ P.info? e = some i ∧ i.size = 1
  add : ∀ (x y c : Nat) (w : World), c ≤ 1 → (callFunc cx.add #[.int .u64 x, .int .u64 y, .int .u64 c]).run P w =
      .ok (.value (.tuple #[.int .u64 (((x + y + c) % 18446744073709551616 : Nat) : Int), .int .u64 (((x + y + c) / 18446744073709551616 : Nat) : Int)])) w
  sub : ∀ (x y c : Nat) (w : World), c ≤ 1 → (callFunc cx.sub #[.int .u64 x, .int .u64 y, .int .u64 c]).run P w =
      .ok (.value (.tuple #[.int .u64 (((x + 18446744073709551616 - y - c) % 18446744073709551616 : Nat) : Int), .int .u64 ((if x < y + c then 1 else 0 : Nat) : Int)])) w
  cmov : ∀ (ad : Addr) (c x y : Nat) (old : Value) (w : World), c ≤ 1 → x < 18446744073709551616 → y < 18446744073709551616 → w.cell? ad = some old → w.frozen? ad = false →
      Calls P cx.cmov #[.pointer (some ad), .int .u64 c, .int .u64 x, .int .u64 y] w fun e w' => e = .returned (.tuple #[]) ∧ w' = w.setCell ad (.int .u64 ((if c = 0 then x else y : Nat) : Int))
  enter : ∀ args : Array Value, ∀ w : World, (callFunc cx.cmov args).run P w = .ok (.enter cx.cmov args) w

structure St where
  regs : List (Nat × SV)
  heap : List (List SV × TypeId)
  next : Nat

def get : List (Nat × SV) → Nat → Option SV
  | [], _ => none
  | (i, s) :: l, t => match Nat.beq i t with
    | true => some s
    | false => get l t

def mem : List Nat → Nat → Bool
  | [], _ => false
  | i :: l, t => match Nat.beq i t with
    | true => true
    | false => mem l t
theorem mem_of {l : List Nat} {t : Nat} (h : mem l t = true) : t ∈ l := by
  induction l with
  | nil => cases h
  | cons i l ih =>
    unfold mem at h
    split at h
    · rename_i h1; rw [beq_eq] at h1; subst h1; exact List.mem_cons_self
    · exact List.mem_cons_of_mem _ (ih h)

def len : List (TypeId × Nat) → Nat → Option Nat
  | [], _ => none
  | (i, s) :: l, t => match Nat.beq i t with
    | true => some s
    | false => len l t
theorem len_of {l : List (TypeId × Nat)} {t n : Nat} (h : len l t = some n) : (t, n) ∈ l := by
  induction l with
  | nil => cases h
  | cons i l ih =>
    obtain ⟨i, s⟩ := i
    unfold len at h
    split at h
    · rename_i h1; rw [beq_eq] at h1; subst h1; cases h; exact List.mem_cons_self
    · exact List.mem_cons_of_mem _ (ih h)

def opd (st : St) : Operand → Option SV
  | .tmp t => get st.regs t
  | .const v => some (.k v)
  | _ => none
def wordOf (st : St) (x : Operand) : Option A := (opd st x).bind SV.word
def byteOf (st : St) (x : Operand) : Option A := (opd st x).bind SV.byte

/-- What an operation that leaves memory alone yields: its value, the relations that this rests on, how many new numbers. -/
def val (cx : Cx) (st : St) : Op → Option (SV × List R × Nat)
  | .move x => (opd st x).map fun s => (s, [], 0)
  | .assign x => (opd st x).map fun s => (s, [], 0)
  | .nilCheck x => match opd st x with
    | some (.p g o) => some (.p g o, [], 0)
    | _ => none
  | .indexAddr t x (.const (.int .i64 (.ofNat n))) => match opd st x, len cx.arrs t with
    | some (.p g o), some m => if n < m then some (.p g (o + n), [], 0) else none
    | _, _ => none
  | .load t x => match opd st x, mem cx.words t || mem cx.bytes t with
    | some (.p g o), true => ((st.heap[g]?).bind fun c => c.1[o]?).map fun s => (s, [], 0)
    | _, _ => none
  | .extract x n => match opd st x, n with
    | some (.t i _), 0 => some (.w i, [], 0)
    | some (.t _ j), 1 => some (.w j, [], 0)
    | _, _ => none
  | .call { callee := .value (.func f), args := ⟨[x, y, z]⟩, .. } => match wordOf st x, wordOf st y, wordOf st z with
    | some x, some y, some z =>
      match Nat.beq f cx.add, Nat.beq f cx.sub with
      | true, _ => some (.t st.next (st.next + 1), [.add st.next x y z], 2)
      | false, true => some (.t st.next (st.next + 1), [.sub st.next x y z], 2)
      | _, _ => none
    | _, _, _ => none
  | .binOp .and _ x y _ => match wordOf st x, wordOf st y with
    | some x, some y => some (.w st.next, [.and st.next x y], 1)
    | _, _ => match byteOf st x, byteOf st y with
      | some x, some (.lit 255) => some (.b st.next, [.low st.next x], 1)
      | _, _ => none
  | .binOp .shr _ x y _ => match wordOf st x, wordOf st y with
    | some x, some (.lit s) => if s ≤ 63 then some (.w st.next, [.shr st.next x s], 1) else none
    | _, _ => none
  | .binOp .shl _ x y _ => match wordOf st x, wordOf st y with
    | some x, some (.lit s) => if s ≤ 63 then some (.w st.next, [.shl st.next x s], 1) else none
    | _, _ => none
  | .binOp .add _ x y _ => match wordOf st x, wordOf st y with
    | some x, some y => some (.w st.next, [.sum st.next x y], 1)
    | _, _ => none
  | .convert s d x => match mem cx.bytes d, mem cx.words s || mem cx.bytes s, wordOf st x with
    | true, true, some x => some (.b st.next, [.low st.next x], 1)
    | _, _, _ => match mem cx.words d, mem cx.words s || mem cx.bytes s, opd st x with
      | true, true, some (.b i) => some (.w i, [], 0)
      | true, true, some (.w i) => some (.w i, [], 0)
      | _, _, _ => none
  | _ => none

def putR (regs : List (Nat × SV)) (n : Nat) : Option Tmp → SV → Option (List (Nat × SV))
  | none, _ => some regs
  | some d, s => if d < n then some ((d, s) :: regs) else none

/-- One operation that leaves memory alone. -/
def still (cx : Cx) (n : Nat) (st : St) (o : Oper) : Option (St × List R) :=
  match o.guard with
  | some _ => none
  | none => match val cx st o.op with
    | none => none
    | some (s, rs, m) => match putR st.regs n o.dst s with
      | none => none
      | some regs => some ({ regs := regs, heap := st.heap, next := st.next + m }, rs)

def undefS : SV := .k (.tuple #[])

def oneCell : SV → Bool
  | .w _ => true
  | .b _ => true
  | _ => false

def setAt (heap : List (List SV × TypeId)) (g o : Nat) (s : SV) : Option (List (List SV × TypeId)) :=
  match heap[g]? with
  | some (c, t) => if o < c.length then some (heap.set g (c.set o s, t)) else none
  | none => none

/-- One operation that makes or writes memory. -/
def eff (cx : Cx) (n : Nat) (st : St) (o : Oper) : Option (St × List R) :=
  match o.guard with
  | some _ => none
  | none => match o.op with
    | .alloc t => match mem cx.words t, putR st.regs n o.dst (.p st.heap.length 0) with
      | true, some regs => some ({ regs := regs, heap := st.heap ++ [([.k (.int .u64 0)], t)], next := st.next }, [])
      | _, _ => none
    | .store t x y => match mem cx.words t || mem cx.bytes t, opd st x, opd st y, o.dst with
      | true, some (.p g f), some s, none => match oneCell s, setAt st.heap g f s with
        | true, some heap => some ({ regs := st.regs, heap := heap, next := st.next }, [])
        | _, _ => none
      | _, _, _, _ => none
    | .call { callee := .value (.func f), args := ⟨[x, c, y, z]⟩, .. } => match Nat.beq f cx.cmov, opd st x, wordOf st c, wordOf st y, wordOf st z with
      | true, some (.p g f), some c, some y, some z => match setAt st.heap g f (.w st.next), putR st.regs n o.dst undefS with
        | some heap, some regs => some ({ regs := regs, heap := heap, next := st.next + 1 }, [.cmov st.next c y z])
        | _, _ => none
      | _, _, _, _, _ => none
    | _ => none

def stills (cx : Cx) (n : Nat) : List Oper → St → Option (St × List R)
  | [], st => some (st, [])
  | o :: l, st => match still cx n st o with
    | none => none
    | some (st1, r1) => match stills cx n l st1 with
      | none => none
      | some (st2, r2) => some (st2, r1 ++ r2)

def anys (cx : Cx) (n : Nat) : List Oper → St → Option (St × List R)
  | [], st => some (st, [])
  | o :: l, st => match (match still cx n st o with | some x => some x | none => eff cx n st o) with
    | none => none
    | some (st1, r1) => match anys cx n l st1 with
      | none => none
      | some (st2, r2) => some (st2, r1 ++ r2)

def region (cx : Cx) (n : Nat) (ops : List Oper) (draw : Bool) (st : St) : Option (St × List R) :=
  match draw with
  | false => anys cx n ops st
  | true => match Region.lexB .any ops.toArray, stills cx n ops st with
    | true, some x => some x
    | _, _ => match Region.lexTailB .any ops.toArray (ops.length - 1) with
      | false => none
      | true => match stills cx n (ops.take (ops.length - 1)) st with
        | none => none
        | some (st1, r1) => match anys cx n (ops.drop (ops.length - 1)) st1 with
          | none => none
          | some (st2, r2) => some (st2, r1 ++ r2)

def body (cx : Cx) (n : Nat) : Code → St → Option (St × List R)
  | .seq (.region _ ops draw) c, st => match region cx n ops.toList draw st with
    | none => none
    | some (st1, r1) => match body cx n c st1 with
      | none => none
      | some (st2, r2) => some (st2, r1 ++ r2)
  | .region _ ops draw, st => region cx n ops.toList draw st
  | .ret, st => some (st, [])
  | _, _ => none

/-! ### What the symbolic state says of a frame and of a world -/
structure ARel (E : Env) (n : Nat) (regs : List (Nat × SV)) (a : Act) : Prop where
  size : a.tmps.size = n
  defers : a.defers = []
  reg : ∀ t s, get regs t = some s → a.tmps.getD t undef = s.den E

structure WRel (E : Env) (w0 : World) (base npar : Nat) (heap : List (List SV × TypeId)) (w : World) : Prop where
  os : w.os = w0.os
  tape : w.tape = w0.tape
  output : w.output = w0.output
  size : w.heap.size + npar = base + heap.length
  par : npar ≤ heap.length
  blk : ∀ i c t, heap[i]? = some (c, t) → w.heap[E.loc i]? = some (.cells (c.map (SV.den E)).toArray t (0, 0))
  old : ∀ k, k < base → (∀ i, i < npar → E.loc i ≠ k) → w.heap[k]? = w0.heap[k]?

structure LRel (E : Env) (base npar : Nat) : Prop where
  inj : ∀ i j, E.loc i = E.loc j → i = j
  low : ∀ i, i < npar → E.loc i < base
  new : ∀ i, npar ≤ i → E.loc i = base + (i - npar)

section
variable {E : Env} {n : Nat} {regs : List (Nat × SV)} {a : Act} {w w0 : World} {base npar : Nat} {heap : List (List SV × TypeId)}

theorem ARel.opd (h : ARel E n regs a) {st : St} (hst : st.regs = regs) {x : Operand} {s : SV} (hx : Sym.opd st x = some s) : a.eval x = s.den E := by
  cases x with
  | tmp t => exact h.reg t s (by simpa [Sym.opd, hst] using hx)
  | const v => simp only [Sym.opd, Option.some.injEq] at hx; subst hx; rfl
  | global g => simp [Sym.opd] at hx
  | func f => simp [Sym.opd] at hx
theorem ARel.word (h : ARel E n regs a) {st : St} (hst : st.regs = regs) {x : Operand} {y : A} (hx : wordOf st x = some y) :
    a.eval x = .int .u64 (y.val E.v : Int) ∧ y.val E.v < 18446744073709551616 := by
  unfold wordOf at hx
  cases h1 : Sym.opd st x with
  | none => simp [h1] at hx
  | some s =>
    simp only [h1, Option.bind_some] at hx
    exact ⟨(h.opd hst h1).trans (SV.word_den E hx), SV.word_lt E hx⟩
theorem ARel.byte (h : ARel E n regs a) {st : St} (hst : st.regs = regs) {x : Operand} {y : A} (hx : byteOf st x = some y) :
    a.eval x = .int .u8 (y.val E.v : Int) ∧ y.val E.v < 18446744073709551616 := by
  unfold byteOf at hx
  cases h1 : Sym.opd st x with
  | none => simp [h1] at hx
  | some s =>
    simp only [h1, Option.bind_some] at hx
    exact ⟨(h.opd hst h1).trans (SV.byte_den E hx), SV.byte_lt E hx⟩

theorem get_cons (i t : Nat) (s : SV) (l : List (Nat × SV)) : get ((i, s) :: l) t = if i = t then some s else get l t := by
  show (match Nat.beq i t with | true => some s | false => get l t) = _
  by_cases h : i = t
  · subst h; simp [Nat.beq_refl]
  · have : Nat.beq i t = false := by
      cases h1 : Nat.beq i t with
      | true => exact absurd ((beq_eq i t).mp h1) h
      | false => rfl
    simp [h, this]

theorem ARel.put (h : ARel E n regs a) {dst : Option Tmp} {s : SV} {regs' : List (Nat × SV)} (hp : putR regs n dst s = some regs') : ARel E n regs' (a.put dst (s.den E)) := by
  cases dst with
  | none => simp only [putR, Option.some.injEq] at hp; subst hp; exact h
  | some d =>
    simp only [putR] at hp
    by_cases hd : d < n
    · rw [if_pos hd] at hp
      simp only [Option.some.injEq] at hp
      subst hp
      refine ⟨by simp [Act.put, h.size], h.defers, fun t s' ht => ?_⟩
      rw [get_cons] at ht
      by_cases hdt : d = t
      · subst hdt
        rw [if_pos rfl] at ht
        cases ht
        have : d < a.tmps.size := by rw [h.size]; exact hd
        simp [Act.put, Array.getD_eq_getD_getElem?, this]
      · rw [if_neg hdt] at ht
        rw [← h.reg t s' ht]
        simp [Act.put, Array.getD_eq_getD_getElem?, hdt]
    · rw [if_neg hd] at hp; cases hp

theorem WRel.cell (h : WRel E w0 base npar heap w) {i o : Nat} {c : List SV} {t : TypeId} {s : SV} (hi : heap[i]? = some (c, t)) (ho : c[o]? = some s) :
    w.cell? ⟨E.loc i, o, none⟩ = some (s.den E) := by
  have := h.blk i c t hi
  simp [World.cell?, this, ho]
theorem WRel.frozen (h : WRel E w0 base npar heap w) {i o : Nat} {c : List SV} {t : TypeId} (hi : heap[i]? = some (c, t)) : w.frozen? ⟨E.loc i, o, none⟩ = false := by
  have := h.blk i c t hi
  simp [World.frozen?, this]
theorem WRel.drew (h : WRel E w0 base npar heap w) : WRel E w0 base npar heap { w with drawn := w.drawn + 1 } :=
  ⟨h.os, h.tape, h.output, h.size, h.par, h.blk, h.old⟩
theorem WRel.set (h : WRel E w0 base npar heap w) (l : LRel E base npar) {i o : Nat} {s : SV} {heap' : List (List SV × TypeId)} (hs : setAt heap i o s = some heap') :
    WRel E w0 base npar heap' (w.setCell ⟨E.loc i, o, none⟩ (s.den E)) ∧ (∃ old, w.cell? ⟨E.loc i, o, none⟩ = some old) ∧ w.frozen? ⟨E.loc i, o, none⟩ = false := by
  unfold setAt at hs
  split at hs
  · rename_i c t hi
    split at hs
    · rename_i ho
      cases hs
      have hil : i < heap.length := (List.getElem?_eq_some_iff.1 hi).1
      refine ⟨⟨h.os, h.tape, h.output, by simpa [World.setCell] using h.size, by simpa using h.par, fun j c' t' hj => ?_, fun k hk hne => ?_⟩, ⟨_, h.cell hi (List.getElem?_eq_getElem ho)⟩, h.frozen hi⟩
      · by_cases hij : i = j
        · subst hij
          rw [List.getElem?_set_self hil] at hj
          cases hj
          simp [World.setCell, Array.getElem?_modify, h.blk i c t hi, List.map_set]
        · rw [List.getElem?_set_ne hij] at hj
          have hne : E.loc i ≠ E.loc j := fun e => hij (l.inj i j e)
          simp only [World.setCell, Array.getElem?_modify, hne, if_false]
          exact h.blk j c' t' hj
      · have hne' : E.loc i ≠ k := by
          by_cases hi' : i < npar
          · exact hne i hi'
          · have := l.new i (by omega); omega
        simp only [World.setCell, Array.getElem?_modify, hne', if_false]
        exact h.old k hk hne
    · cases hs
  · cases hs
theorem WRel.alloc (h : WRel E w0 base npar heap w) (l : LRel E base npar) (c : List SV) (t : TypeId) :
    WRel E w0 base npar (heap ++ [(c, t)]) (w.alloc (.cells (c.map (SV.den E)).toArray t)) ∧ w.heap.size = E.loc heap.length := by
  have hsz : w.heap.size = E.loc heap.length := by
    have := l.new heap.length h.par
    have := h.size
    have := h.par
    omega
  refine ⟨⟨h.os, h.tape, h.output, by have := h.size; show (w.heap.push _).size + _ = _; simp; omega, by have := h.par; simp; omega, fun j c' t' hj => ?_, fun k hk hne => ?_⟩, hsz⟩
  · by_cases hjl : j < heap.length
    · rw [List.getElem?_append_left hjl] at hj
      have hne : E.loc j ≠ w.heap.size := fun e => by
        have := l.inj j heap.length (e.trans hsz); omega
      have hlt : E.loc j < w.heap.size := by
        rcases Nat.lt_or_ge (E.loc j) w.heap.size with h1 | h1
        · exact h1
        · have := h.blk j c' t' hj
          rw [Array.getElem?_eq_none h1] at this
          cases this
      show (w.heap.push _)[E.loc j]? = _
      rw [Array.getElem?_push, if_neg hne]
      exact h.blk j c' t' hj
    · have hj' : j = heap.length := by
        have h1 := (List.getElem?_eq_some_iff.1 hj).1
        simp only [List.length_append, List.length_cons, List.length_nil] at h1
        omega
      subst hj'
      rw [List.getElem?_append_right (Nat.le_refl _)] at hj
      simp only [Nat.sub_self, List.getElem?_cons_zero, Option.some.injEq, Prod.mk.injEq] at hj
      obtain ⟨rfl, rfl⟩ := hj
      show (w.heap.push _)[E.loc heap.length]? = _
      rw [Array.getElem?_push, if_pos hsz.symm]
  · have hsz' := h.size
    have hpar := h.par
    have hne' : k ≠ w.heap.size := by omega
    show (w.heap.push _)[k]? = _
    rw [Array.getElem?_push, if_neg hne']
    exact h.old k hk hne
end
end Go.Proofs.Ytnpeilpnpedmcaa.Sym
