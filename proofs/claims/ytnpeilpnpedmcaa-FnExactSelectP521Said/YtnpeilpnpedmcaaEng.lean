/-
  The symbolic execution of straight-line code over words and bytes, proved sound once: what a body of moves, loads, stores, 'new variables', calls of Add64, Sub64 and a conditional move and some operators computes is a list of relations between numbered words, and a memory of such numbers.
-/
import Derived.StillTail
import Derived.Below
import Derived.Laws.Externs
import Derived.KernelRfl
namespace Go.Proofs.Ytnpeilpnpedmcaa.Sym
open Go.RowKit

/-! ### Values -/
/-- A symbolic value: word number i, byte number i, a constant, an address in block number b, two words. -/
inductive SV where
  | w (i : Nat)
  | b (i : Nat)
  | k (v : Value)
  | p (blk off : Nat)
  | t (i j : Nat)

structure Env where
  v : Nat → Nat
  loc : Nat → Nat
  lt : ∀ i, v i < 18446744073709551616

def SV.den (E : Env) : SV → Value
  | .w i => .int .u64 (E.v i : Int)
  | .b i => .int .u8 (E.v i : Int)
  | .k v => v
  | .p g o => .pointer (some ⟨E.loc g, o, none⟩)
  | .t i j => .tuple #[.int .u64 (E.v i : Int), .int .u64 (E.v j : Int)]

/-- A number: variable i, or a literal. -/
inductive A where
  | var (i : Nat)
  | lit (n : Nat)

def A.val (v : Nat → Nat) : A → Nat
  | .var i => v i
  | .lit n => n

def SV.word : SV → Option A
  | .w i => some (.var i)
  | .k (.int .u64 (.ofNat n)) => if n < 18446744073709551616 then some (.lit n) else none
  | _ => none

def SV.byte : SV → Option A
  | .b i => some (.var i)
  | .k (.int .u8 (.ofNat n)) => if n < 256 then some (.lit n) else none
  | _ => none

theorem SV.word_den {s : SV} {a : A} (E : Env) (h : s.word = some a) : s.den E = .int .u64 (a.val E.v : Int) := by
  unfold SV.word at h
  split at h
  · cases h; rfl
  · split at h
    · cases h; rfl
    · cases h
  · cases h

theorem SV.word_lt {s : SV} {a : A} (E : Env) (h : s.word = some a) : a.val E.v < 18446744073709551616 := by
  unfold SV.word at h
  split at h
  · cases h; exact E.lt _
  · split at h
    · cases h; assumption
    · cases h
  · cases h

theorem SV.byte_den {s : SV} {a : A} (E : Env) (h : s.byte = some a) : s.den E = .int .u8 (a.val E.v : Int) := by
  unfold SV.byte at h
  split at h
  · cases h; rfl
  · split at h
    · cases h; rfl
    · cases h
  · cases h

theorem SV.byte_lt {s : SV} {a : A} (E : Env) (h : s.byte = some a) : a.val E.v < 18446744073709551616 := by
  unfold SV.byte at h
  split at h
  · cases h; exact E.lt _
  · split at h
    · rename_i h1; cases h; exact Nat.lt_trans h1 (by decide)
    · cases h
  · cases h

/-! ### Relations -/
inductive R where
  | add (d : Nat) (x y c : A)
  | sub (d : Nat) (x y c : A)
  | cmov (d : Nat) (c x y : A)
  | and (d : Nat) (x y : A)
  | shr (d : Nat) (x : A) (s : Nat)
  | shl (d : Nat) (x : A) (s : Nat)
  | sum (d : Nat) (x y : A)
  | low (d : Nat) (x : A)

/-- What is owed. -/
def bor (x y : Nat) : Nat := if x < y then 1 else 0
/-- One of two. -/
def sel (c x y : Nat) : Nat := if c = 0 then x else y

def R.holds (v : Nat → Nat) : R → Prop
  | .add d x y c => c.val v ≤ 1 ∧ v d = (x.val v + y.val v + c.val v) % 18446744073709551616 ∧ v (d + 1) = (x.val v + y.val v + c.val v) / 18446744073709551616
  | .sub d x y c => c.val v ≤ 1 ∧ v d = (x.val v + 18446744073709551616 - y.val v - c.val v) % 18446744073709551616 ∧ v (d + 1) = bor (x.val v) (y.val v + c.val v)
  | .cmov d c x y => c.val v ≤ 1 ∧ v d = sel (c.val v) (x.val v) (y.val v)
  | .and d x y => v d = x.val v &&& y.val v
  | .shr d x s => v d = x.val v / 2 ^ s
  | .shl d x s => v d = (x.val v * 2 ^ s) % 18446744073709551616
  | .sum d x y => v d = (x.val v + y.val v) % 18446744073709551616
  | .low d x => v d = x.val v % 256

theorem A.val_var (v : Nat → Nat) (i : Nat) : (A.var i).val v = v i := rfl
theorem A.val_lit (v : Nat → Nat) (i : Nat) : (A.lit i).val v = i := rfl
section
variable (v : Nat → Nat) (d s : Nat) (x y c : A)
theorem R.holds_add : (R.add d x y c).holds v = (c.val v ≤ 1 ∧ v d = (x.val v + y.val v + c.val v) % 18446744073709551616 ∧ v (d + 1) = (x.val v + y.val v + c.val v) / 18446744073709551616) := rfl
theorem R.holds_sub : (R.sub d x y c).holds v = (c.val v ≤ 1 ∧ v d = (x.val v + 18446744073709551616 - y.val v - c.val v) % 18446744073709551616 ∧ v (d + 1) = bor (x.val v) (y.val v + c.val v)) := rfl
theorem R.holds_cmov : (R.cmov d c x y).holds v = (c.val v ≤ 1 ∧ v d = sel (c.val v) (x.val v) (y.val v)) := rfl
theorem R.holds_and : (R.and d x y).holds v = (v d = x.val v &&& y.val v) := rfl
theorem R.holds_shr : (R.shr d x s).holds v = (v d = x.val v / 2 ^ s) := rfl
theorem R.holds_shl : (R.shl d x s).holds v = (v d = (x.val v * 2 ^ s) % 18446744073709551616) := rfl
theorem R.holds_sum : (R.sum d x y).holds v = (v d = (x.val v + y.val v) % 18446744073709551616) := rfl
theorem R.holds_low : (R.low d x).holds v = (v d = x.val v % 256) := rfl
end
theorem nil_rel (v : Nat → Nat) : (∀ r ∈ ([] : List R), r.holds v) = True := by simp

/-! ### There are such numbers -/
def A.ok (n : Nat) : A → Bool
  | .var i => Nat.blt i n
  | .lit m => Nat.blt m 18446744073709551616
def A.bit (bits : Nat) : A → Bool
  | .var i => bits.testBit i
  | .lit m => Nat.ble m 1

/-- Each relation names numbers that stand before it, a carry is a carry, what it makes is next. -/
def chk : Nat → Nat → List R → Bool
  | _, _, [] => true
  | n, bits, .add d x y c :: rs => Nat.beq d n && x.ok n && y.ok n && c.ok n && c.bit bits && chk (n + 2) (bits ||| 2 ^ (n + 1)) rs
  | n, bits, .sub d x y c :: rs => Nat.beq d n && x.ok n && y.ok n && c.ok n && c.bit bits && chk (n + 2) (bits ||| 2 ^ (n + 1)) rs
  | n, bits, .cmov d c x y :: rs => Nat.beq d n && x.ok n && y.ok n && c.ok n && c.bit bits && chk (n + 1) bits rs
  | n, bits, .and d x y :: rs => Nat.beq d n && x.ok n && y.ok n && chk (n + 1) bits rs
  | n, bits, .shr d x _ :: rs => Nat.beq d n && x.ok n && chk (n + 1) bits rs
  | n, bits, .shl d x _ :: rs => Nat.beq d n && x.ok n && chk (n + 1) bits rs
  | n, bits, .sum d x y :: rs => Nat.beq d n && x.ok n && y.ok n && chk (n + 1) bits rs
  | n, bits, .low d x :: rs => Nat.beq d n && x.ok n && chk (n + 1) bits rs

theorem beq_eq (a c : Nat) : (Nat.beq a c = true) = (a = c) := propext ⟨Nat.eq_of_beq_eq_true, fun h => by subst h; exact Nat.beq_refl a⟩
def upd (v : Nat → Nat) (d n : Nat) : Nat → Nat := fun i => if i = d then n else v i
theorem upd_same (v : Nat → Nat) (d n : Nat) : upd v d n d = n := by simp [upd]
theorem upd_other (v : Nat → Nat) (d n i : Nat) (h : i ≠ d) : upd v d n i = v i := by simp [upd, h]

theorem A.val_of {v v' : Nat → Nat} {n : Nat} {x : A} (h : x.ok n = true) (hv : ∀ i, i < n → v' i = v i) : x.val v' = x.val v := by
  cases x with
  | var i => exact hv i (by simp only [A.ok, Nat.blt, Nat.ble_eq] at h; exact h)
  | lit m => rfl
theorem A.lt_of {v : Nat → Nat} {n : Nat} {x : A} (h : x.ok n = true) (hv : ∀ i, v i < 18446744073709551616) : x.val v < 18446744073709551616 := by
  cases x with
  | var i => exact hv i
  | lit m => simp only [A.ok, Nat.blt, Nat.ble_eq] at h; exact h
theorem A.bit_of {v : Nat → Nat} {bits : Nat} {x : A} (h : x.bit bits = true) (hv : ∀ i, bits.testBit i = true → v i ≤ 1) : x.val v ≤ 1 := by
  cases x with
  | var i => exact hv i h
  | lit m => simp only [A.bit, Nat.ble_eq] at h; exact h

theorem bits_more {v : Nat → Nat} {bits n k : Nat} (hb : ∀ i, bits.testBit i = true → v i ≤ 1) (hn : ∀ i, bits.testBit i = true → i < n) (u : Nat) (hk : k ≤ 1) :
    ∀ i, (bits ||| 2 ^ (n + 1)).testBit i = true → upd (upd v n u) (n + 1) k i ≤ 1 := by
  intro i hi
  rw [Nat.testBit_or, Nat.testBit_two_pow] at hi
  by_cases h : i = n + 1
  · subst h; rw [upd_same]; exact hk
  · simp only [Bool.or_eq_true, decide_eq_true_eq] at hi
    have hi' : bits.testBit i = true := by
      rcases hi with hi | hi
      · exact hi
      · exact absurd hi.symm h
    have := hn i hi'
    rw [upd_other _ _ _ _ h, upd_other _ _ _ _ (by omega)]
    exact hb i hi'
theorem bits_lt {bits n : Nat} (hn : ∀ i, bits.testBit i = true → i < n) : ∀ i, (bits ||| 2 ^ (n + 1)).testBit i = true → i < n + 2 := by
  intro i hi
  rw [Nat.testBit_or, Nat.testBit_two_pow] at hi
  simp only [Bool.or_eq_true, decide_eq_true_eq] at hi
  rcases hi with hi | hi
  · have := hn i hi; omega
  · omega
theorem bits_keep {v : Nat → Nat} {bits n : Nat} (hb : ∀ i, bits.testBit i = true → v i ≤ 1) (hn : ∀ i, bits.testBit i = true → i < n) (u : Nat) :
    ∀ i, bits.testBit i = true → upd v n u i ≤ 1 := by
  intro i hi
  have := hn i hi
  rw [upd_other _ _ _ _ (by omega)]
  exact hb i hi
theorem upd_lt {v : Nat → Nat} {d u : Nat} (hv : ∀ i, v i < 18446744073709551616) (hu : u < 18446744073709551616) : ∀ i, upd v d u i < 18446744073709551616 := by
  intro i
  unfold upd
  split
  · exact hu
  · exact hv i

theorem exists_numbers : ∀ (rs : List R) (n bits : Nat) (v : Nat → Nat), (∀ i, v i < 18446744073709551616) → (∀ i, bits.testBit i = true → v i ≤ 1) → (∀ i, bits.testBit i = true → i < n) →
    chk n bits rs = true → ∃ v' : Nat → Nat, (∀ i, i < n → v' i = v i) ∧ (∀ i, v' i < 18446744073709551616) ∧ ∀ r ∈ rs, r.holds v'
  | [], n, bits, v, hv, _, _, _ => ⟨v, fun _ _ => rfl, hv, fun r hr => by cases hr⟩
  | r :: rs, n, bits, v, hv, hb, hn, h => by
    have two : ∀ (u k : Nat), u < 18446744073709551616 → k ≤ 1 → chk (n + 2) (bits ||| 2 ^ (n + 1)) rs = true →
        (∀ v' : Nat → Nat, (∀ i, i < n → v' i = v i) → v' n = u → v' (n + 1) = k → r.holds v') →
        ∃ v' : Nat → Nat, (∀ i, i < n → v' i = v i) ∧ (∀ i, v' i < 18446744073709551616) ∧ ∀ r' ∈ r :: rs, r'.holds v' := by
      intro u k hu hk hc hr
      obtain ⟨v', h1, h2, h3⟩ := exists_numbers rs (n + 2) (bits ||| 2 ^ (n + 1)) (upd (upd v n u) (n + 1) k) (upd_lt (upd_lt hv hu) (by omega)) (bits_more hb hn u hk) (bits_lt hn) hc
      have e0 : ∀ i, i < n → v' i = v i := fun i hi => by
        rw [h1 i (by omega), upd_other _ _ _ _ (by omega), upd_other _ _ _ _ (by omega)]
      refine ⟨v', e0, h2, fun r' hr' => ?_⟩
      rcases List.mem_cons.1 hr' with rfl | hm
      · refine hr v' e0 ?_ ?_
        · rw [h1 n (by omega), upd_other _ _ _ _ (by omega), upd_same]
        · rw [h1 (n + 1) (by omega), upd_same]
      · exact h3 r' hm
    have one : ∀ (u : Nat), u < 18446744073709551616 → chk (n + 1) bits rs = true →
        (∀ v' : Nat → Nat, (∀ i, i < n → v' i = v i) → v' n = u → r.holds v') →
        ∃ v' : Nat → Nat, (∀ i, i < n → v' i = v i) ∧ (∀ i, v' i < 18446744073709551616) ∧ ∀ r' ∈ r :: rs, r'.holds v' := by
      intro u hu hc hr
      obtain ⟨v', h1, h2, h3⟩ := exists_numbers rs (n + 1) bits (upd v n u) (upd_lt hv hu) (bits_keep hb hn u) (fun i hi => Nat.lt_succ_of_lt (hn i hi)) hc
      have e0 : ∀ i, i < n → v' i = v i := fun i hi => by
        rw [h1 i (by omega), upd_other _ _ _ _ (by omega)]
      refine ⟨v', e0, h2, fun r' hr' => ?_⟩
      rcases List.mem_cons.1 hr' with rfl | hm
      · refine hr v' e0 ?_
        rw [h1 n (by omega), upd_same]
      · exact h3 r' hm
    cases r with
    | add d x y c =>
      simp only [chk, Bool.and_eq_true, beq_eq] at h
      obtain ⟨⟨⟨⟨⟨rfl, hx⟩, hy⟩, hc⟩, hbit⟩, hrs⟩ := h
      have lx := A.lt_of hx hv
      have ly := A.lt_of hy hv
      have lc := A.bit_of hbit hb
      refine two ((x.val v + y.val v + c.val v) % 18446744073709551616) ((x.val v + y.val v + c.val v) / 18446744073709551616) (by omega) (by omega) hrs fun v' e0 e1 e2 => ?_
      simp only [R.holds, A.val_of hx e0, A.val_of hy e0, A.val_of hc e0]
      exact ⟨lc, e1, e2⟩
    | sub d x y c =>
      simp only [chk, Bool.and_eq_true, beq_eq] at h
      obtain ⟨⟨⟨⟨⟨rfl, hx⟩, hy⟩, hc⟩, hbit⟩, hrs⟩ := h
      have lx := A.lt_of hx hv
      have ly := A.lt_of hy hv
      have lc := A.bit_of hbit hb
      refine two ((x.val v + 18446744073709551616 - y.val v - c.val v) % 18446744073709551616) (bor (x.val v) (y.val v + c.val v)) (by omega) (by unfold bor; split <;> omega) hrs fun v' e0 e1 e2 => ?_
      simp only [R.holds, A.val_of hx e0, A.val_of hy e0, A.val_of hc e0]
      exact ⟨lc, e1, e2⟩
    | cmov d c x y =>
      simp only [chk, Bool.and_eq_true, beq_eq] at h
      obtain ⟨⟨⟨⟨⟨rfl, hx⟩, hy⟩, hc⟩, hbit⟩, hrs⟩ := h
      have lx := A.lt_of hx hv
      have ly := A.lt_of hy hv
      have lc := A.bit_of hbit hb
      refine one (sel (c.val v) (x.val v) (y.val v)) (by unfold sel; split <;> assumption) hrs fun v' e0 e1 => ?_
      simp only [R.holds, A.val_of hx e0, A.val_of hy e0, A.val_of hc e0]
      exact ⟨lc, e1⟩
    | and d x y =>
      simp only [chk, Bool.and_eq_true, beq_eq] at h
      obtain ⟨⟨⟨rfl, hx⟩, hy⟩, hrs⟩ := h
      have lx := A.lt_of hx hv
      refine one (x.val v &&& y.val v) (Nat.lt_of_le_of_lt Nat.and_le_left lx) hrs fun v' e0 e1 => ?_
      simp only [R.holds, A.val_of hx e0, A.val_of hy e0]
      exact e1
    | shr d x s =>
      simp only [chk, Bool.and_eq_true, beq_eq] at h
      obtain ⟨⟨rfl, hx⟩, hrs⟩ := h
      have lx := A.lt_of hx hv
      refine one (x.val v / 2 ^ s) (Nat.lt_of_le_of_lt (Nat.div_le_self _ _) lx) hrs fun v' e0 e1 => ?_
      simp only [R.holds, A.val_of hx e0]
      exact e1
    | shl d x s =>
      simp only [chk, Bool.and_eq_true, beq_eq] at h
      obtain ⟨⟨rfl, hx⟩, hrs⟩ := h
      refine one ((x.val v * 2 ^ s) % 18446744073709551616) (Nat.mod_lt _ (by decide)) hrs fun v' e0 e1 => ?_
      simp only [R.holds, A.val_of hx e0]
      exact e1
    | sum d x y =>
      simp only [chk, Bool.and_eq_true, beq_eq] at h
      obtain ⟨⟨⟨rfl, hx⟩, hy⟩, hrs⟩ := h
      refine one ((x.val v + y.val v) % 18446744073709551616) (Nat.mod_lt _ (by decide)) hrs fun v' e0 e1 => ?_
      simp only [R.holds, A.val_of hx e0, A.val_of hy e0]
      exact e1
    | low d x =>
      simp only [chk, Bool.and_eq_true, beq_eq] at h
      obtain ⟨⟨rfl, hx⟩, hrs⟩ := h
      refine one (x.val v % 256) (by omega) hrs fun v' e0 e1 => ?_
      simp only [R.holds, A.val_of hx e0]
      exact e1
end Go.Proofs.Ytnpeilpnpedmcaa.Sym
