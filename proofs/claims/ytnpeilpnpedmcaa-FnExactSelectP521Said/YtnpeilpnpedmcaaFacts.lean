/-
  What the symbolic execution asks of this program: its types, the carry and the borrow of math/bits, the conditional move.
-/
import Derived.Test.YtnpeilpnpedmcaaSound
import Derived.Test.YtnpeilpnpedmcaaChecked
import Derived.Shelf.Spec.BitsCarry
import Derived.WalkKit
import Derived.Lib.Hide
namespace Go.Proofs.Ytnpeilpnpedmcaa
open Go.RowKit

theorem add64 (x y c : Nat) (hc : c ≤ 1) (w : World) : (callFunc 23 #[.int .u64 x, .int .u64 y, .int .u64 c]).run Try.prog w =
    .ok (.value (.tuple #[.int .u64 (((x + y + c) % 18446744073709551616 : Nat) : Int), .int .u64 (((x + y + c) / 18446744073709551616 : Nat) : Int)])) w := by
  rw [run_callFunc_extern Try.func23 (by kernel_rfl) (by kernel_rfl) (by kernel_rfl) (e := add64Entry) (by kernel_rfl), run_add64 x y c (by omega) (by omega) (by omega) (by omega)]
  simp only [Result.andThen]
  congr 5 <;> omega
theorem sub64 (x y c : Nat) (hc : c ≤ 1) (w : World) : (callFunc 24 #[.int .u64 x, .int .u64 y, .int .u64 c]).run Try.prog w =
    .ok (.value (.tuple #[.int .u64 (((x + 18446744073709551616 - y - c) % 18446744073709551616 : Nat) : Int), .int .u64 ((if x < y + c then 1 else 0 : Nat) : Int)])) w := by
  rw [run_callFunc_extern Try.func24 (by kernel_rfl) (by kernel_rfl) (by kernel_rfl) (e := sub64Entry) (by kernel_rfl), run_sub64 x y c hc]
  rfl

theorem nat64 (x : Nat) (hx : x < 18446744073709551616) : (BitVec.ofInt 64 (x : Int)).toNat = x := by
  simp only [BitVec.ofInt_natCast, BitVec.toNat_ofNat]; exact Nat.mod_eq_of_lt hx
theorem and_none (y : Nat) : bits .and .u64 0 (y : Int) = 0 := by
  show IntKind.u64.wrap ((BitVec.ofInt 64 0 &&& BitVec.ofInt 64 (y : Int)).toNat : Int) = 0
  rw [Sym.u64_wrap]; simp
theorem and_all (x : Nat) (hx : x < 18446744073709551616) : bits .and .u64 18446744073709551615 (x : Int) = (x : Int) := by
  show IntKind.u64.wrap ((BitVec.ofInt 64 ((18446744073709551615 : Nat) : Int) &&& BitVec.ofInt 64 (x : Int)).toNat : Int) = x
  rw [Sym.u64_wrap, BitVec.toNat_and, nat64 _ (by decide), nat64 _ hx, Nat.and_comm]
  have := Nat.and_two_pow_sub_one_eq_mod x 64
  simp only [Nat.reducePow, Nat.reduceSub] at this
  rw [this, Nat.mod_mod, Nat.mod_eq_of_lt hx]
theorem or_left (x : Nat) (hx : x < 18446744073709551616) : bits .or .u64 0 (x : Int) = (x : Int) := by
  show IntKind.u64.wrap ((BitVec.ofInt 64 0 ||| BitVec.ofInt 64 (x : Int)).toNat : Int) = x
  rw [Sym.u64_wrap, BitVec.toNat_or, nat64 _ hx]
  simp only [BitVec.ofInt_ofNat, BitVec.toNat_ofNat, Nat.zero_mod, Nat.zero_or, Nat.mod_eq_of_lt hx]
theorem or_right (x : Nat) (hx : x < 18446744073709551616) : bits .or .u64 (x : Int) 0 = (x : Int) := by
  show IntKind.u64.wrap ((BitVec.ofInt 64 (x : Int) ||| BitVec.ofInt 64 0).toNat : Int) = x
  rw [Sym.u64_wrap, BitVec.toNat_or, nat64 _ hx]
  simp only [BitVec.ofInt_ofNat, BitVec.toNat_ofNat, Nat.zero_mod, Nat.or_zero, Nat.mod_eq_of_lt hx]
theorem pick0 (x y : Nat) (hx : x < 18446744073709551616) : bits .or .u64 (bits .and .u64 0 (y : Int)) (bits .and .u64 (bits .xor .u64 IntKind.u64.max 0) (x : Int)) = (x : Int) := by
  have e2 : bits .xor .u64 IntKind.u64.max 0 = 18446744073709551615 := by decide
  rw [and_none, e2, and_all x hx, or_left x hx]
theorem pick1 (x y : Nat) (hy : y < 18446744073709551616) : bits .or .u64 (bits .and .u64 18446744073709551615 (y : Int)) (bits .and .u64 (bits .xor .u64 IntKind.u64.max 18446744073709551615) (x : Int)) = (y : Int) := by
  have e2 : bits .xor .u64 IntKind.u64.max 18446744073709551615 = 0 := by decide
  rw [e2, and_none, and_all y hy, or_right y hy]

theorem cmov_any (ad : Addr) (c x y : Nat) (old : Value) (w : World) (hc : c ≤ 1) (hx : x < 18446744073709551616) (hy : y < 18446744073709551616) (hcell : w.cell? ad = some old) (hfr : w.frozen? ad = false) :
    Calls Try.prog 22 #[.pointer (some ad), .int .u64 c, .int .u64 x, .int .u64 y] w fun e w' => e = .returned (.tuple #[]) ∧ w' = w.setCell ad (.int .u64 ((if c = 0 then x else y : Nat) : Int)) := by
  have h01 : c = 0 ∨ c = 1 := by omega
  have p0 := Lib.hid (pick0 x y hx)
  have p1 := Lib.hid (pick1 x y hy)
  clear hx hy hc
  rcases h01 with rfl | rfl
  · go_enter Try.func22, Try.ntmps22
    go_wp2
    go_end0
    rw [p0.out]
    exact ⟨rfl, rfl⟩
  · go_enter Try.func22, Try.ntmps22
    go_wp2
    go_end0
    rw [p1.out]
    exact ⟨rfl, rfl⟩

def cx : Sym.Cx :=
  { add := 23, sub := 24, cmov := 22,
    words := [22, 36], bytes := [5],
    arrs := [(23, 9), (37, 9)] }

theorem info_of {P : Program} {t n : Nat} {z : Value} (h : (P.info? t).map (fun i => (i.size, i.zero)) = some (n, some z)) : ∃ i, P.info? t = some i ∧ i.size = n ∧ i.zero = some z := by
  cases hi : P.info? t with
  | none => simp [hi] at h
  | some i =>
    simp only [hi, Option.map_some, Option.some.injEq, Prod.mk.injEq] at h
    exact ⟨i, rfl, h.1, h.2⟩

theorem facts : Sym.Facts Try.prog cx where
  mixed := by kernel_rfl
  word := by
    intro t ht
    simp only [cx, List.mem_cons, List.not_mem_nil, or_false] at ht
    rcases ht with rfl | rfl
    · exact ⟨Try.underlying22, info_of (by kernel_rfl)⟩
    · exact ⟨Try.underlying36, info_of (by kernel_rfl)⟩
  byte := by
    intro t ht
    simp only [cx, List.mem_cons, List.not_mem_nil, or_false] at ht
    subst ht
    obtain ⟨i, h1, h2, _⟩ := info_of (P := Try.prog) (t := 5) (n := 1) (z := .int .u8 0) (by kernel_rfl)
    exact ⟨Try.underlying5, i, h1, h2⟩
  arr := by
    intro t n ht
    simp only [cx, List.mem_cons, List.not_mem_nil, or_false, Prod.mk.injEq] at ht
    obtain ⟨i, h1, h2, _⟩ := info_of (P := Try.prog) (t := 22) (n := 1) (z := .int .u64 0) (by kernel_rfl)
    obtain ⟨j, k1, k2, _⟩ := info_of (P := Try.prog) (t := 5) (n := 1) (z := .int .u8 0) (by kernel_rfl)
    rcases ht with ⟨rfl, rfl⟩ | ⟨rfl, rfl⟩
    · exact ⟨_, i, Try.underlying23, h1, h2⟩
    · exact ⟨_, i, Try.underlying37, h1, h2⟩
  add := fun x y c w hc => add64 x y c hc w
  sub := fun x y c w hc => sub64 x y c hc w
  cmov := fun ad c x y old w h1 h2 h3 h4 h5 => cmov_any ad c x y old w h1 h2 h3 h4 h5
  enter := fun args w => by
    have h1 : Try.f22.name ≠ "runtime.NumGoroutine" := by
      have : (Try.f22.name == "runtime.NumGoroutine") = false := by kernel_rfl
      simpa using this
    have h2 : Try.f22.body.isNone = false := by kernel_rfl
    have h3 : Try.prog.funcs[22]? = some Try.f22 := Try.func22
    simp [cx, callFunc, h3, h1]
    intro hn
    rw [hn] at h2
    cases h2
end Go.Proofs.Ytnpeilpnpedmcaa
