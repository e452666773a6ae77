/-
  What the straight-line functions of this field compute, through pointers: sums and differences modulo the prime, a choice.
-/
import Derived.Test.YtigifpdcamcanaaBase
import Derived.Test.YtigifpdcamcanaaFacts
namespace Go.Proofs.Ytigifpdcamcanaa
open Go.RowKit Num

def u64 (n : Nat) : Value := .int .u64 (n : Int)
def u8 (n : Nat) : Value := .int .u8 (n : Int)
def prime : Nat := 39402006196394479212279040100143613805079739270465446667948293404245721771496870329047266088258938001861606973112319
def pwords : List Nat := [4294967295, 18446744069414584320, 18446744073709551614, 18446744073709551615, 18446744073709551615, 18446744073709551615]
theorem pwords_val : val pwords = prime := by decide +kernel
theorem pwords_ws : Ws pwords := by unfold Ws pwords; simp
theorem len_all {l : List Nat} (h : l.length = 6) : ∃ a0 a1 a2 a3 a4 a5 : Nat, l = [a0, a1, a2, a3, a4, a5] := by
  match l, h with
  | [a0, a1, a2, a3, a4, a5], _ => exact ⟨_, _, _, _, _, _, rfl⟩
def rsAdd : List Sym.R := [.add 12 (.var 0) (.var 6) (.lit 0), .add 14 (.var 1) (.var 7) (.var 13), .add 16 (.var 2) (.var 8) (.var 15), .add 18 (.var 3) (.var 9) (.var 17), .add 20 (.var 4) (.var 10) (.var 19), .add 22 (.var 5) (.var 11) (.var 21), .sub 24 (.var 12) (.lit 4294967295) (.lit 0), .sub 26 (.var 14) (.lit 18446744069414584320) (.var 25), .sub 28 (.var 16) (.lit 18446744073709551614) (.var 27), .sub 30 (.var 18) (.lit 18446744073709551615) (.var 29), .sub 32 (.var 20) (.lit 18446744073709551615) (.var 31), .sub 34 (.var 22) (.lit 18446744073709551615) (.var 33), .sub 36 (.var 23) (.lit 0) (.var 35), .cmov 38 (.var 37) (.var 24) (.var 12), .cmov 39 (.var 37) (.var 26) (.var 14), .cmov 40 (.var 37) (.var 28) (.var 16), .cmov 41 (.var 37) (.var 30) (.var 18), .cmov 42 (.var 37) (.var 32) (.var 20), .cmov 43 (.var 37) (.var 34) (.var 22)]
theorem runAdd : Sym.run cx Try.f27 [.p 0 0, .p 1 0, .p 2 0] [([.k (.int .u64 0), .k (.int .u64 0), .k (.int .u64 0), .k (.int .u64 0), .k (.int .u64 0), .k (.int .u64 0)], 43), ([.w 0, .w 1, .w 2, .w 3, .w 4, .w 5], 43), ([.w 6, .w 7, .w 8, .w 9, .w 10, .w 11], 43)] 12 = some (([.w 38, .w 39, .w 40, .w 41, .w 42, .w 43], 43) :: ([([.w 0, .w 1, .w 2, .w 3, .w 4, .w 5], 43), ([.w 6, .w 7, .w 8, .w 9, .w 10, .w 11], 43)] ++ [([.w 38], 22), ([.w 39], 22), ([.w 40], 22), ([.w 41], 22), ([.w 42], 22), ([.w 43], 22)]), rsAdd) := by kernel_rfl
def rsSub : List Sym.R := [.sub 12 (.var 0) (.var 6) (.lit 0), .sub 14 (.var 1) (.var 7) (.var 13), .sub 16 (.var 2) (.var 8) (.var 15), .sub 18 (.var 3) (.var 9) (.var 17), .sub 20 (.var 4) (.var 10) (.var 19), .sub 22 (.var 5) (.var 11) (.var 21), .cmov 24 (.var 23) (.lit 0) (.lit 18446744073709551615), .and 25 (.var 24) (.lit 4294967295), .add 26 (.var 12) (.var 25) (.lit 0), .and 28 (.var 24) (.lit 18446744069414584320), .add 29 (.var 14) (.var 28) (.var 27), .and 31 (.var 24) (.lit 18446744073709551614), .add 32 (.var 16) (.var 31) (.var 30), .add 34 (.var 18) (.var 24) (.var 33), .add 36 (.var 20) (.var 24) (.var 35), .add 38 (.var 22) (.var 24) (.var 37)]
theorem runSub : Sym.run cx Try.f28 [.p 0 0, .p 1 0, .p 2 0] [([.k (.int .u64 0), .k (.int .u64 0), .k (.int .u64 0), .k (.int .u64 0), .k (.int .u64 0), .k (.int .u64 0)], 43), ([.w 0, .w 1, .w 2, .w 3, .w 4, .w 5], 43), ([.w 6, .w 7, .w 8, .w 9, .w 10, .w 11], 43)] 12 = some (([.w 26, .w 29, .w 32, .w 34, .w 36, .w 38], 43) :: ([([.w 0, .w 1, .w 2, .w 3, .w 4, .w 5], 43), ([.w 6, .w 7, .w 8, .w 9, .w 10, .w 11], 43)] ++ [([.w 24], 22)]), rsSub) := by kernel_rfl
def rsSelect : List Sym.R := [.cmov 13 (.var 12) (.var 0) (.var 6), .cmov 14 (.var 12) (.var 1) (.var 7), .cmov 15 (.var 12) (.var 2) (.var 8), .cmov 16 (.var 12) (.var 3) (.var 9), .cmov 17 (.var 12) (.var 4) (.var 10), .cmov 18 (.var 12) (.var 5) (.var 11)]
theorem runSelect : Sym.run cx Try.f26 [.p 0 0, .w 12, .p 1 0, .p 2 0] [([.k (.int .u64 0), .k (.int .u64 0), .k (.int .u64 0), .k (.int .u64 0), .k (.int .u64 0), .k (.int .u64 0)], 23), ([.w 0, .w 1, .w 2, .w 3, .w 4, .w 5], 23), ([.w 6, .w 7, .w 8, .w 9, .w 10, .w 11], 23)] 13 = some (([.w 13, .w 14, .w 15, .w 16, .w 17, .w 18], 23) :: ([([.w 0, .w 1, .w 2, .w 3, .w 4, .w 5], 23), ([.w 6, .w 7, .w 8, .w 9, .w 10, .w 11], 23)] ++ [([.w 13], 22), ([.w 14], 22), ([.w 15], 22), ([.w 16], 22), ([.w 17], 22), ([.w 18], 22)]), rsSelect) := by kernel_rfl
theorem getD_lt {l : List Nat} (h : Ws l) (i : Nat) : l.getD i 0 < 18446744073709551616 := by
  rw [List.getD_eq_getElem?_getD]
  by_cases hi : i < l.length
  · rw [List.getElem?_eq_getElem hi]; exact h _ (List.getElem_mem hi)
  · rw [List.getElem?_eq_none (by omega)]; decide
theorem ws_append {l l' : List Nat} (h : Ws l) (h' : Ws l') : Ws (l ++ l') := fun x hx => by
  rcases List.mem_append.1 hx with h1 | h1
  · exact h x h1
  · exact h' x h1
theorem size_of {w : World} {g : Nat} {o : Obj} (h : w.heap[g]? = some o) : g < w.heap.size := by
  rcases Nat.lt_or_ge g w.heap.size with h1 | h1
  · exact h1
  · rw [Array.getElem?_eq_none h1] at h; cases h
def zeroCells : Array Value := #[.int .u64 0, .int .u64 0, .int .u64 0, .int .u64 0, .int .u64 0, .int .u64 0]

theorem bit_at {l : List Nat} {c : Nat} (k : Nat) (hc : c ≤ 1) (hl : l.length = k := by rfl) : ∀ i, (2 ^ k).testBit i = true → (l ++ [c]).getD i 0 ≤ 1 := by
  intro i h
  rw [Nat.testBit_two_pow] at h
  simp only [decide_eq_true_eq] at h
  subst h; subst hl
  simpa [List.getD_eq_getElem?_getD] using hc
theorem bit_lt (k : Nat) : ∀ i, (2 ^ k).testBit i = true → i < k + 1 := by
  intro i h
  rw [Nat.testBit_two_pow] at h
  simp only [decide_eq_true_eq] at h
  omega
set_option maxRecDepth 100000 in
theorem outsAdd (v : Nat → Nat) (_ : ∀ i, v i < 18446744073709551616) (hR : ∀ r ∈ rsAdd, r.holds v) (ha : Ws [v 0, v 1, v 2, v 3, v 4, v 5]) (hb : Ws [v 6, v 7, v 8, v 9, v 10, v 11]) (lta : val [v 0, v 1, v 2, v 3, v 4, v 5] < prime) (ltb : val [v 6, v 7, v 8, v 9, v 10, v 11] < prime) :
    [v 38, v 39, v 40, v 41, v 42, v 43] = wordsOf 6 ((val [v 0, v 1, v 2, v 3, v 4, v 5] + val [v 6, v 7, v 8, v 9, v 10, v 11]) % prime) := by
  simp only [rsAdd, List.forall_mem_cons, Sym.R.holds_add, Sym.R.holds_sub, Sym.R.holds_cmov, Sym.A.val_var, Sym.A.val_lit, Sym.nil_rel, and_true, Nat.reduceAdd] at hR
  obtain ⟨⟨_, r12, r13⟩, ⟨_, r14, r15⟩, ⟨_, r16, r17⟩, ⟨_, r18, r19⟩, ⟨_, r20, r21⟩, ⟨_, r22, r23⟩, ⟨_, r24, r25⟩, ⟨_, r26, r27⟩, ⟨_, r28, r29⟩, ⟨_, r30, r31⟩, ⟨_, r32, r33⟩, ⟨_, r34, r35⟩, ⟨_, r36, r37⟩, ⟨_, r38⟩, ⟨_, r39⟩, ⟨_, r40⟩, ⟨_, r41⟩, ⟨_, r42⟩, ⟨_, r43⟩⟩ := hR
  have h1 : AddC [v 0, v 1, v 2, v 3, v 4, v 5] [v 6, v 7, v 8, v 9, v 10, v 11] 0 [v 12, v 14, v 16, v 18, v 20, v 22] (v 23) := Sym.AddC.cons r12 r13 (Sym.AddC.cons r14 r15 (Sym.AddC.cons r16 r17 (Sym.AddC.cons r18 r19 (Sym.AddC.cons r20 r21 (Sym.AddC.cons r22 r23 (Sym.AddC.nil _))))))
  have h2 : SubC [v 12, v 14, v 16, v 18, v 20, v 22] pwords 0 [v 24, v 26, v 28, v 30, v 32, v 34] (v 35) := Sym.SubC.cons r24 r25 (Sym.SubC.cons r26 r27 (Sym.SubC.cons r28 r29 (Sym.SubC.cons r30 r31 (Sym.SubC.cons r32 r33 (Sym.SubC.cons r34 r35 (Sym.SubC.nil _))))))
  have h3 := add_mod ha hb pwords_ws rfl rfl pwords_val lta ltb h1 h2
  refine Eq.trans ?_ h3
  rw [Nat.zero_add] at r37
  by_cases hc : v 23 < v 35
  · rw [Sym.bor, if_pos hc] at r37
    rw [if_pos hc, r38, r39, r40, r41, r42, r43, r37]
    rfl
  · rw [Sym.bor, if_neg hc] at r37
    rw [if_neg hc, r38, r39, r40, r41, r42, r43, r37]
    rfl

set_option maxRecDepth 100000 in
theorem outsSub (v : Nat → Nat) (hv : ∀ i, v i < 18446744073709551616) (hR : ∀ r ∈ rsSub, r.holds v) (ha : Ws [v 0, v 1, v 2, v 3, v 4, v 5]) (hb : Ws [v 6, v 7, v 8, v 9, v 10, v 11]) (lta : val [v 0, v 1, v 2, v 3, v 4, v 5] < prime) (ltb : val [v 6, v 7, v 8, v 9, v 10, v 11] < prime) :
    [v 26, v 29, v 32, v 34, v 36, v 38] = wordsOf 6 ((val [v 0, v 1, v 2, v 3, v 4, v 5] + (prime - val [v 6, v 7, v 8, v 9, v 10, v 11])) % prime) := by
  simp only [rsSub, List.forall_mem_cons, Sym.R.holds_add, Sym.R.holds_sub, Sym.R.holds_cmov, Sym.R.holds_and, Sym.A.val_var, Sym.A.val_lit, Sym.nil_rel, and_true, Nat.reduceAdd] at hR
  obtain ⟨⟨_, r12, r13⟩, ⟨_, r14, r15⟩, ⟨_, r16, r17⟩, ⟨_, r18, r19⟩, ⟨_, r20, r21⟩, ⟨_, r22, r23⟩, ⟨_, r24⟩, r25, ⟨_, r26, r27⟩, r28, ⟨_, r29, r30⟩, r31, ⟨_, r32, r33⟩, ⟨_, r34, r35⟩, ⟨_, r36, r37⟩, ⟨_, r38, r39⟩⟩ := hR
  have h1 : SubC [v 0, v 1, v 2, v 3, v 4, v 5] [v 6, v 7, v 8, v 9, v 10, v 11] 0 [v 12, v 14, v 16, v 18, v 20, v 22] (v 23) := Sym.SubC.cons r12 r13 (Sym.SubC.cons r14 r15 (Sym.SubC.cons r16 r17 (Sym.SubC.cons r18 r19 (Sym.SubC.cons r20 r21 (Sym.SubC.cons r22 r23 (Sym.SubC.nil _))))))
  have h2 : AddC [v 12, v 14, v 16, v 18, v 20, v 22] [v 25, v 28, v 31, v 24, v 24, v 24] 0 [v 26, v 29, v 32, v 34, v 36, v 38] (v 39) := Sym.AddC.cons r26 r27 (Sym.AddC.cons r29 r30 (Sym.AddC.cons r32 r33 (Sym.AddC.cons r34 r35 (Sym.AddC.cons r36 r37 (Sym.AddC.cons r38 r39 (Sym.AddC.nil _))))))
  have hm : Ws [v 25, v 28, v 31, v 24, v 24, v 24] := (Ws.cons (hv _) (Ws.cons (hv _) (Ws.cons (hv _) (Ws.cons (hv _) (Ws.cons (hv _) (Ws.cons (hv _) Ws.nil))))))
  have hmv : val [v 25, v 28, v 31, v 24, v 24, v 24] = if v 23 = 0 then 0 else prime := by
    by_cases hb0 : v 23 = 0
    · have hm0 : v 24 = 0 := by rw [r24, Sym.sel, if_pos hb0]
      have z25 : v 25 = 0 := by rw [r25, hm0]; exact Nat.zero_and _
      have z28 : v 28 = 0 := by rw [r28, hm0]; exact Nat.zero_and _
      have z31 : v 31 = 0 := by rw [r31, hm0]; exact Nat.zero_and _
      rw [if_pos hb0, z25, z28, z31, hm0]
      decide +kernel
    · have hm0 : v 24 = 18446744073709551615 := by rw [r24, Sym.sel, if_neg hb0]
      have z25 : v 25 = 4294967295 := by rw [r25, hm0]; decide +kernel
      have z28 : v 28 = 18446744069414584320 := by rw [r28, hm0]; decide +kernel
      have z31 : v 31 = 18446744073709551614 := by rw [r31, hm0]; decide +kernel
      rw [if_neg hb0, z25, z28, z31, hm0]
      decide +kernel
  exact sub_mod ha hb pwords_ws rfl rfl pwords_val lta ltb h1 hm rfl hmv h2

set_option maxRecDepth 100000 in
theorem outsSelect (v : Nat → Nat) (_ : ∀ i, v i < 18446744073709551616) (hR : ∀ r ∈ rsSelect, r.holds v) :
    [v 13, v 14, v 15, v 16, v 17, v 18] = if v 12 = 0 then [v 0, v 1, v 2, v 3, v 4, v 5] else [v 6, v 7, v 8, v 9, v 10, v 11] := by
  simp only [rsSelect, List.forall_mem_cons, Sym.R.holds_cmov, Sym.A.val_var, Sym.nil_rel, and_true] at hR
  obtain ⟨⟨_, r13⟩, ⟨_, r14⟩, ⟨_, r15⟩, ⟨_, r16⟩, ⟨_, r17⟩, ⟨_, r18⟩⟩ := hR
  rw [r13, r14, r15, r16, r17, r18]
  by_cases h0 : v 12 = 0
  · simp only [Sym.sel, h0, if_true]
  · simp only [Sym.sel, h0, if_false]

set_option maxRecDepth 100000 in
theorem leafAdd (w : World) (gz gx gy : Nat) (xs ys : List Nat) (hla : xs.length = 6) (hlb : ys.length = 6) (ha : Ws xs) (hb : Ws ys) (lta : val xs < prime) (ltb : val ys < prime) (nd : [gz, gx, gy].Nodup)
    (hz : w.heap[gz]? = some (.cells zeroCells 43 (0, 0))) (hx : w.heap[gx]? = some (.cells (xs.map u64).toArray 43 (0, 0))) (hy : w.heap[gy]? = some (.cells (ys.map u64).toArray 43 (0, 0))) :
    Calls Try.prog 27 #[.pointer (some ⟨gz, 0, none⟩), .pointer (some ⟨gx, 0, none⟩), .pointer (some ⟨gy, 0, none⟩)] w fun e w' =>
      e = .returned (.tuple #[]) ∧ Sym.Wrote gz (.cells ((wordsOf 6 ((val xs + val ys) % prime)).map u64).toArray 43 (0, 0)) w w' := by
  obtain ⟨a0, a1, a2, a3, a4, a5, rfl⟩ := len_all hla
  obtain ⟨b0, b1, b2, b3, b4, b5, rfl⟩ := len_all hlb
  have hws := ws_append ha hb
  obtain ⟨v, e, hv, hR⟩ := Sym.exists_numbers rsAdd 12 0 (fun i => ([a0, a1, a2, a3, a4, a5, b0, b1, b2, b3, b4, b5]).getD i 0) (getD_lt hws) (fun i h => by simp at h) (fun i h => by simp at h) (by kernel_rfl)
  obtain rfl : v 0 = a0 := e 0 (by decide)
  obtain rfl : v 1 = a1 := e 1 (by decide)
  obtain rfl : v 2 = a2 := e 2 (by decide)
  obtain rfl : v 3 = a3 := e 3 (by decide)
  obtain rfl : v 4 = a4 := e 4 (by decide)
  obtain rfl : v 5 = a5 := e 5 (by decide)
  obtain rfl : v 6 = b0 := e 6 (by decide)
  obtain rfl : v 7 = b1 := e 7 (by decide)
  obtain rfl : v 8 = b2 := e 8 (by decide)
  obtain rfl : v 9 = b3 := e 9 (by decide)
  obtain rfl : v 10 = b4 := e 10 (by decide)
  obtain rfl : v 11 = b5 := e 11 (by decide)
  clear e hws
  have hlt : ∀ x ∈ [gz, gx, gy], x < w.heap.size := by
    intro x hx'
    simp only [List.mem_cons, List.not_mem_nil, or_false] at hx'
    rcases hx' with rfl | rfl | rfl
    · exact size_of hz
    · exact size_of hx
    · exact size_of hy
  have key := Sym.call_leaf facts Try.func27 (by kernel_rfl) (of_decide_eq_true (by kernel_rfl)) nd hlt rfl runAdd v hv hR hz (by
    intro i c t g hi hg
    match i, hi, hg with
    | 0, hi, hg => cases hi; cases hg; exact hx
    | 1, hi, hg => cases hi; cases hg; exact hy
    | i + 2, hi, hg => simp at hi)
  have ho := outsAdd v hv hR ha hb lta ltb
  refine Calls.mono key ?_
  rintro e w' ⟨he, hw⟩
  refine ⟨he, ?_⟩
  rw [← ho]
  exact hw

set_option maxRecDepth 100000 in
theorem leafSub (w : World) (gz gx gy : Nat) (xs ys : List Nat) (hla : xs.length = 6) (hlb : ys.length = 6) (ha : Ws xs) (hb : Ws ys) (lta : val xs < prime) (ltb : val ys < prime) (nd : [gz, gx, gy].Nodup)
    (hz : w.heap[gz]? = some (.cells zeroCells 43 (0, 0))) (hx : w.heap[gx]? = some (.cells (xs.map u64).toArray 43 (0, 0))) (hy : w.heap[gy]? = some (.cells (ys.map u64).toArray 43 (0, 0))) :
    Calls Try.prog 28 #[.pointer (some ⟨gz, 0, none⟩), .pointer (some ⟨gx, 0, none⟩), .pointer (some ⟨gy, 0, none⟩)] w fun e w' =>
      e = .returned (.tuple #[]) ∧ Sym.Wrote gz (.cells ((wordsOf 6 ((val xs + (prime - val ys)) % prime)).map u64).toArray 43 (0, 0)) w w' := by
  obtain ⟨a0, a1, a2, a3, a4, a5, rfl⟩ := len_all hla
  obtain ⟨b0, b1, b2, b3, b4, b5, rfl⟩ := len_all hlb
  have hws := ws_append ha hb
  obtain ⟨v, e, hv, hR⟩ := Sym.exists_numbers rsSub 12 0 (fun i => ([a0, a1, a2, a3, a4, a5, b0, b1, b2, b3, b4, b5]).getD i 0) (getD_lt hws) (fun i h => by simp at h) (fun i h => by simp at h) (by kernel_rfl)
  obtain rfl : v 0 = a0 := e 0 (by decide)
  obtain rfl : v 1 = a1 := e 1 (by decide)
  obtain rfl : v 2 = a2 := e 2 (by decide)
  obtain rfl : v 3 = a3 := e 3 (by decide)
  obtain rfl : v 4 = a4 := e 4 (by decide)
  obtain rfl : v 5 = a5 := e 5 (by decide)
  obtain rfl : v 6 = b0 := e 6 (by decide)
  obtain rfl : v 7 = b1 := e 7 (by decide)
  obtain rfl : v 8 = b2 := e 8 (by decide)
  obtain rfl : v 9 = b3 := e 9 (by decide)
  obtain rfl : v 10 = b4 := e 10 (by decide)
  obtain rfl : v 11 = b5 := e 11 (by decide)
  clear e hws
  have hlt : ∀ x ∈ [gz, gx, gy], x < w.heap.size := by
    intro x hx'
    simp only [List.mem_cons, List.not_mem_nil, or_false] at hx'
    rcases hx' with rfl | rfl | rfl
    · exact size_of hz
    · exact size_of hx
    · exact size_of hy
  have key := Sym.call_leaf facts Try.func28 (by kernel_rfl) (of_decide_eq_true (by kernel_rfl)) nd hlt rfl runSub v hv hR hz (by
    intro i c t g hi hg
    match i, hi, hg with
    | 0, hi, hg => cases hi; cases hg; exact hx
    | 1, hi, hg => cases hi; cases hg; exact hy
    | i + 2, hi, hg => simp at hi)
  have ho := outsSub v hv hR ha hb lta ltb
  refine Calls.mono key ?_
  rintro e w' ⟨he, hw⟩
  refine ⟨he, ?_⟩
  rw [← ho]
  exact hw

set_option maxRecDepth 100000 in
theorem leafSelect (w : World) (gz gx gy : Nat) (xs ys : List Nat) (hla : xs.length = 6) (hlb : ys.length = 6) (ha : Ws xs) (hb : Ws ys) (cond : Nat) (hc : cond ≤ 1) (nd : [gz, gx, gy].Nodup)
    (hz : w.heap[gz]? = some (.cells zeroCells 23 (0, 0))) (hx : w.heap[gx]? = some (.cells (xs.map u64).toArray 23 (0, 0))) (hy : w.heap[gy]? = some (.cells (ys.map u64).toArray 23 (0, 0))) :
    Calls Try.prog 26 #[.pointer (some ⟨gz, 0, none⟩), .int .u64 cond, .pointer (some ⟨gx, 0, none⟩), .pointer (some ⟨gy, 0, none⟩)] w fun e w' =>
      e = .returned (.tuple #[]) ∧ Sym.Wrote gz (.cells ((if cond = 0 then xs else ys).map u64).toArray 23 (0, 0)) w w' := by
  obtain ⟨a0, a1, a2, a3, a4, a5, rfl⟩ := len_all hla
  obtain ⟨b0, b1, b2, b3, b4, b5, rfl⟩ := len_all hlb
  have hws := ws_append ha hb
  replace hws := ws_append hws (Ws.cons (x := cond) (by omega) Ws.nil)
  obtain ⟨v, e, hv, hR⟩ := Sym.exists_numbers rsSelect 13 4096 (fun i => ([a0, a1, a2, a3, a4, a5, b0, b1, b2, b3, b4, b5, cond]).getD i 0) (getD_lt hws) (bit_at (l := [a0, a1, a2, a3, a4, a5, b0, b1, b2, b3, b4, b5]) 12 hc) (bit_lt 12) (by kernel_rfl)
  obtain rfl : v 0 = a0 := e 0 (by decide)
  obtain rfl : v 1 = a1 := e 1 (by decide)
  obtain rfl : v 2 = a2 := e 2 (by decide)
  obtain rfl : v 3 = a3 := e 3 (by decide)
  obtain rfl : v 4 = a4 := e 4 (by decide)
  obtain rfl : v 5 = a5 := e 5 (by decide)
  obtain rfl : v 6 = b0 := e 6 (by decide)
  obtain rfl : v 7 = b1 := e 7 (by decide)
  obtain rfl : v 8 = b2 := e 8 (by decide)
  obtain rfl : v 9 = b3 := e 9 (by decide)
  obtain rfl : v 10 = b4 := e 10 (by decide)
  obtain rfl : v 11 = b5 := e 11 (by decide)
  obtain rfl : v 12 = cond := e 12 (by decide)
  clear e hws
  have hlt : ∀ x ∈ [gz, gx, gy], x < w.heap.size := by
    intro x hx'
    simp only [List.mem_cons, List.not_mem_nil, or_false] at hx'
    rcases hx' with rfl | rfl | rfl
    · exact size_of hz
    · exact size_of hx
    · exact size_of hy
  have key := Sym.call_leaf facts Try.func26 (by kernel_rfl) (of_decide_eq_true (by kernel_rfl)) nd hlt rfl runSelect v hv hR hz (by
    intro i c t g hi hg
    match i, hi, hg with
    | 0, hi, hg => cases hi; cases hg; exact hx
    | 1, hi, hg => cases hi; cases hg; exact hy
    | i + 2, hi, hg => simp at hi)
  have ho := outsSelect v hv hR
  refine Calls.mono key ?_
  rintro e w' ⟨he, hw⟩
  refine ⟨he, ?_⟩
  rw [← ho]
  exact hw

def bytesAll (l : List Nat) : List Nat := [byteAt l 0, byteAt l 1, byteAt l 2, byteAt l 3, byteAt l 4, byteAt l 5, byteAt l 6, byteAt l 7, byteAt l 8, byteAt l 9, byteAt l 10, byteAt l 11, byteAt l 12, byteAt l 13, byteAt l 14, byteAt l 15, byteAt l 16, byteAt l 17, byteAt l 18, byteAt l 19, byteAt l 20, byteAt l 21, byteAt l 22, byteAt l 23, byteAt l 24, byteAt l 25, byteAt l 26, byteAt l 27, byteAt l 28, byteAt l 29, byteAt l 30, byteAt l 31, byteAt l 32, byteAt l 33, byteAt l 34, byteAt l 35, byteAt l 36, byteAt l 37, byteAt l 38, byteAt l 39, byteAt l 40, byteAt l 41, byteAt l 42, byteAt l 43, byteAt l 44, byteAt l 45, byteAt l 46, byteAt l 47]
def wordsB (l : List Nat) : List Nat := [valB ((l.drop 0).take 8), valB ((l.drop 8).take 8), valB ((l.drop 16).take 8), valB ((l.drop 24).take 8), valB ((l.drop 32).take 8), valB ((l.drop 40).take 8)]
theorem len_bytes {l : List Nat} (h : l.length = 48) : ∃ c0 c1 c2 c3 c4 c5 c6 c7 c8 c9 c10 c11 c12 c13 c14 c15 c16 c17 c18 c19 c20 c21 c22 c23 c24 c25 c26 c27 c28 c29 c30 c31 c32 c33 c34 c35 c36 c37 c38 c39 c40 c41 c42 c43 c44 c45 c46 c47 : Nat, l = [c0, c1, c2, c3, c4, c5, c6, c7, c8, c9, c10, c11, c12, c13, c14, c15, c16, c17, c18, c19, c20, c21, c22, c23, c24, c25, c26, c27, c28, c29, c30, c31, c32, c33, c34, c35, c36, c37, c38, c39, c40, c41, c42, c43, c44, c45, c46, c47] := by
  match l, h with
  | c0 :: c1 :: c2 :: c3 :: c4 :: c5 :: c6 :: c7 :: c8 :: c9 :: c10 :: c11 :: c12 :: c13 :: c14 :: c15 :: c16 :: c17 :: c18 :: c19 :: c20 :: c21 :: c22 :: c23 :: c24 :: c25 :: c26 :: c27 :: c28 :: c29 :: c30 :: c31 :: c32 :: c33 :: c34 :: c35 :: c36 :: c37 :: c38 :: c39 :: c40 :: c41 :: c42 :: c43 :: c44 :: c45 :: c46 :: c47 :: [], _ => exact ⟨_, _, _, _, _, _, _, _, _, _, _, _, _, _, _, _, _, _, _, _, _, _, _, _, _, _, _, _, _, _, _, _, _, _, _, _, _, _, _, _, _, _, _, _, _, _, _, _, rfl⟩
def zeroBytes : Array Value := #[.int .u8 0, .int .u8 0, .int .u8 0, .int .u8 0, .int .u8 0, .int .u8 0, .int .u8 0, .int .u8 0, .int .u8 0, .int .u8 0, .int .u8 0, .int .u8 0, .int .u8 0, .int .u8 0, .int .u8 0, .int .u8 0, .int .u8 0, .int .u8 0, .int .u8 0, .int .u8 0, .int .u8 0, .int .u8 0, .int .u8 0, .int .u8 0, .int .u8 0, .int .u8 0, .int .u8 0, .int .u8 0, .int .u8 0, .int .u8 0, .int .u8 0, .int .u8 0, .int .u8 0, .int .u8 0, .int .u8 0, .int .u8 0, .int .u8 0, .int .u8 0, .int .u8 0, .int .u8 0, .int .u8 0, .int .u8 0, .int .u8 0, .int .u8 0, .int .u8 0, .int .u8 0, .int .u8 0, .int .u8 0]
def rsTo : List Sym.R := [.low 6 (.var 0), .low 7 (.var 6), .shr 8 (.var 0) 8, .low 9 (.var 8), .low 10 (.var 9), .shr 11 (.var 8) 8, .low 12 (.var 11), .low 13 (.var 12), .shr 14 (.var 11) 8, .low 15 (.var 14), .low 16 (.var 15), .shr 17 (.var 14) 8, .low 18 (.var 17), .low 19 (.var 18), .shr 20 (.var 17) 8, .low 21 (.var 20), .low 22 (.var 21), .shr 23 (.var 20) 8, .low 24 (.var 23), .low 25 (.var 24), .shr 26 (.var 23) 8, .low 27 (.var 26), .low 28 (.var 1), .low 29 (.var 28), .shr 30 (.var 1) 8, .low 31 (.var 30), .low 32 (.var 31), .shr 33 (.var 30) 8, .low 34 (.var 33), .low 35 (.var 34), .shr 36 (.var 33) 8, .low 37 (.var 36), .low 38 (.var 37), .shr 39 (.var 36) 8, .low 40 (.var 39), .low 41 (.var 40), .shr 42 (.var 39) 8, .low 43 (.var 42), .low 44 (.var 43), .shr 45 (.var 42) 8, .low 46 (.var 45), .low 47 (.var 46), .shr 48 (.var 45) 8, .low 49 (.var 48), .low 50 (.var 2), .low 51 (.var 50), .shr 52 (.var 2) 8, .low 53 (.var 52), .low 54 (.var 53), .shr 55 (.var 52) 8, .low 56 (.var 55), .low 57 (.var 56), .shr 58 (.var 55) 8, .low 59 (.var 58), .low 60 (.var 59), .shr 61 (.var 58) 8, .low 62 (.var 61), .low 63 (.var 62), .shr 64 (.var 61) 8, .low 65 (.var 64), .low 66 (.var 65), .shr 67 (.var 64) 8, .low 68 (.var 67), .low 69 (.var 68), .shr 70 (.var 67) 8, .low 71 (.var 70), .low 72 (.var 3), .low 73 (.var 72), .shr 74 (.var 3) 8, .low 75 (.var 74), .low 76 (.var 75), .shr 77 (.var 74) 8, .low 78 (.var 77), .low 79 (.var 78), .shr 80 (.var 77) 8, .low 81 (.var 80), .low 82 (.var 81), .shr 83 (.var 80) 8, .low 84 (.var 83), .low 85 (.var 84), .shr 86 (.var 83) 8, .low 87 (.var 86), .low 88 (.var 87), .shr 89 (.var 86) 8, .low 90 (.var 89), .low 91 (.var 90), .shr 92 (.var 89) 8, .low 93 (.var 92), .low 94 (.var 4), .low 95 (.var 94), .shr 96 (.var 4) 8, .low 97 (.var 96), .low 98 (.var 97), .shr 99 (.var 96) 8, .low 100 (.var 99), .low 101 (.var 100), .shr 102 (.var 99) 8, .low 103 (.var 102), .low 104 (.var 103), .shr 105 (.var 102) 8, .low 106 (.var 105), .low 107 (.var 106), .shr 108 (.var 105) 8, .low 109 (.var 108), .low 110 (.var 109), .shr 111 (.var 108) 8, .low 112 (.var 111), .low 113 (.var 112), .shr 114 (.var 111) 8, .low 115 (.var 114), .low 116 (.var 5), .low 117 (.var 116), .shr 118 (.var 5) 8, .low 119 (.var 118), .low 120 (.var 119), .shr 121 (.var 118) 8, .low 122 (.var 121), .low 123 (.var 122), .shr 124 (.var 121) 8, .low 125 (.var 124), .low 126 (.var 125), .shr 127 (.var 124) 8, .low 128 (.var 127), .low 129 (.var 128), .shr 130 (.var 127) 8, .low 131 (.var 130), .low 132 (.var 131), .shr 133 (.var 130) 8, .low 134 (.var 133), .low 135 (.var 134), .shr 136 (.var 133) 8, .low 137 (.var 136)]
theorem runTo : Sym.run cx Try.f29 [.p 0 0, .p 1 0] [([.k (.int .u8 0), .k (.int .u8 0), .k (.int .u8 0), .k (.int .u8 0), .k (.int .u8 0), .k (.int .u8 0), .k (.int .u8 0), .k (.int .u8 0), .k (.int .u8 0), .k (.int .u8 0), .k (.int .u8 0), .k (.int .u8 0), .k (.int .u8 0), .k (.int .u8 0), .k (.int .u8 0), .k (.int .u8 0), .k (.int .u8 0), .k (.int .u8 0), .k (.int .u8 0), .k (.int .u8 0), .k (.int .u8 0), .k (.int .u8 0), .k (.int .u8 0), .k (.int .u8 0), .k (.int .u8 0), .k (.int .u8 0), .k (.int .u8 0), .k (.int .u8 0), .k (.int .u8 0), .k (.int .u8 0), .k (.int .u8 0), .k (.int .u8 0), .k (.int .u8 0), .k (.int .u8 0), .k (.int .u8 0), .k (.int .u8 0), .k (.int .u8 0), .k (.int .u8 0), .k (.int .u8 0), .k (.int .u8 0), .k (.int .u8 0), .k (.int .u8 0), .k (.int .u8 0), .k (.int .u8 0), .k (.int .u8 0), .k (.int .u8 0), .k (.int .u8 0), .k (.int .u8 0)], 32), ([.w 0, .w 1, .w 2, .w 3, .w 4, .w 5], 23)] 6 = some (([.b 7, .b 10, .b 13, .b 16, .b 19, .b 22, .b 25, .b 27, .b 29, .b 32, .b 35, .b 38, .b 41, .b 44, .b 47, .b 49, .b 51, .b 54, .b 57, .b 60, .b 63, .b 66, .b 69, .b 71, .b 73, .b 76, .b 79, .b 82, .b 85, .b 88, .b 91, .b 93, .b 95, .b 98, .b 101, .b 104, .b 107, .b 110, .b 113, .b 115, .b 117, .b 120, .b 123, .b 126, .b 129, .b 132, .b 135, .b 137], 32) :: ([([.w 0, .w 1, .w 2, .w 3, .w 4, .w 5], 23)] ++ []), rsTo) := by kernel_rfl
def rsFrom : List Sym.R := [.shl 48 (.var 47) 56, .shl 49 (.var 46) 48, .shl 50 (.var 45) 40, .shl 51 (.var 44) 32, .shl 52 (.var 43) 24, .shl 53 (.var 42) 16, .shl 54 (.var 41) 8, .shl 55 (.var 39) 56, .shl 56 (.var 38) 48, .shl 57 (.var 37) 40, .shl 58 (.var 36) 32, .shl 59 (.var 35) 24, .shl 60 (.var 34) 16, .shl 61 (.var 33) 8, .shl 62 (.var 31) 56, .shl 63 (.var 30) 48, .shl 64 (.var 29) 40, .shl 65 (.var 28) 32, .shl 66 (.var 27) 24, .shl 67 (.var 26) 16, .shl 68 (.var 25) 8, .shl 69 (.var 23) 56, .shl 70 (.var 22) 48, .shl 71 (.var 21) 40, .shl 72 (.var 20) 32, .shl 73 (.var 19) 24, .shl 74 (.var 18) 16, .shl 75 (.var 17) 8, .shl 76 (.var 15) 56, .shl 77 (.var 14) 48, .shl 78 (.var 13) 40, .shl 79 (.var 12) 32, .shl 80 (.var 11) 24, .shl 81 (.var 10) 16, .shl 82 (.var 9) 8, .shl 83 (.var 7) 56, .shl 84 (.var 6) 48, .shl 85 (.var 5) 40, .shl 86 (.var 4) 32, .shl 87 (.var 3) 24, .shl 88 (.var 2) 16, .shl 89 (.var 1) 8, .sum 90 (.var 89) (.var 0), .sum 91 (.var 88) (.var 90), .sum 92 (.var 87) (.var 91), .sum 93 (.var 86) (.var 92), .sum 94 (.var 85) (.var 93), .sum 95 (.var 84) (.var 94), .sum 96 (.var 83) (.var 95), .sum 97 (.var 82) (.var 8), .sum 98 (.var 81) (.var 97), .sum 99 (.var 80) (.var 98), .sum 100 (.var 79) (.var 99), .sum 101 (.var 78) (.var 100), .sum 102 (.var 77) (.var 101), .sum 103 (.var 76) (.var 102), .sum 104 (.var 75) (.var 16), .sum 105 (.var 74) (.var 104), .sum 106 (.var 73) (.var 105), .sum 107 (.var 72) (.var 106), .sum 108 (.var 71) (.var 107), .sum 109 (.var 70) (.var 108), .sum 110 (.var 69) (.var 109), .sum 111 (.var 68) (.var 24), .sum 112 (.var 67) (.var 111), .sum 113 (.var 66) (.var 112), .sum 114 (.var 65) (.var 113), .sum 115 (.var 64) (.var 114), .sum 116 (.var 63) (.var 115), .sum 117 (.var 62) (.var 116), .sum 118 (.var 61) (.var 32), .sum 119 (.var 60) (.var 118), .sum 120 (.var 59) (.var 119), .sum 121 (.var 58) (.var 120), .sum 122 (.var 57) (.var 121), .sum 123 (.var 56) (.var 122), .sum 124 (.var 55) (.var 123), .sum 125 (.var 54) (.var 40), .sum 126 (.var 53) (.var 125), .sum 127 (.var 52) (.var 126), .sum 128 (.var 51) (.var 127), .sum 129 (.var 50) (.var 128), .sum 130 (.var 49) (.var 129), .sum 131 (.var 48) (.var 130)]
theorem runFrom : Sym.run cx Try.f30 [.p 0 0, .p 1 0] [([.k (.int .u64 0), .k (.int .u64 0), .k (.int .u64 0), .k (.int .u64 0), .k (.int .u64 0), .k (.int .u64 0)], 23), ([.b 0, .b 1, .b 2, .b 3, .b 4, .b 5, .b 6, .b 7, .b 8, .b 9, .b 10, .b 11, .b 12, .b 13, .b 14, .b 15, .b 16, .b 17, .b 18, .b 19, .b 20, .b 21, .b 22, .b 23, .b 24, .b 25, .b 26, .b 27, .b 28, .b 29, .b 30, .b 31, .b 32, .b 33, .b 34, .b 35, .b 36, .b 37, .b 38, .b 39, .b 40, .b 41, .b 42, .b 43, .b 44, .b 45, .b 46, .b 47], 32)] 48 = some (([.w 96, .w 103, .w 110, .w 117, .w 124, .w 131], 23) :: ([([.b 0, .b 1, .b 2, .b 3, .b 4, .b 5, .b 6, .b 7, .b 8, .b 9, .b 10, .b 11, .b 12, .b 13, .b 14, .b 15, .b 16, .b 17, .b 18, .b 19, .b 20, .b 21, .b 22, .b 23, .b 24, .b 25, .b 26, .b 27, .b 28, .b 29, .b 30, .b 31, .b 32, .b 33, .b 34, .b 35, .b 36, .b 37, .b 38, .b 39, .b 40, .b 41, .b 42, .b 43, .b 44, .b 45, .b 46, .b 47], 32)] ++ []), rsFrom) := by kernel_rfl
set_option maxRecDepth 100000 in
theorem outsTo (v : Nat → Nat) (_ : ∀ i, v i < 18446744073709551616) (hR : ∀ r ∈ rsTo, r.holds v) :
    [v 7, v 10, v 13, v 16, v 19, v 22, v 25, v 27, v 29, v 32, v 35, v 38, v 41, v 44, v 47, v 49, v 51, v 54, v 57, v 60, v 63, v 66, v 69, v 71, v 73, v 76, v 79, v 82, v 85, v 88, v 91, v 93, v 95, v 98, v 101, v 104, v 107, v 110, v 113, v 115, v 117, v 120, v 123, v 126, v 129, v 132, v 135, v 137] = bytesAll [v 0, v 1, v 2, v 3, v 4, v 5] := by
  simp only [rsTo, List.forall_mem_cons, Sym.R.holds_shr, Sym.R.holds_low, Sym.A.val_var, Sym.nil_rel, and_true] at hR
  obtain ⟨r6, r7, r8, r9, r10, r11, r12, r13, r14, r15, r16, r17, r18, r19, r20, r21, r22, r23, r24, r25, r26, r27, r28, r29, r30, r31, r32, r33, r34, r35, r36, r37, r38, r39, r40, r41, r42, r43, r44, r45, r46, r47, r48, r49, r50, r51, r52, r53, r54, r55, r56, r57, r58, r59, r60, r61, r62, r63, r64, r65, r66, r67, r68, r69, r70, r71, r72, r73, r74, r75, r76, r77, r78, r79, r80, r81, r82, r83, r84, r85, r86, r87, r88, r89, r90, r91, r92, r93, r94, r95, r96, r97, r98, r99, r100, r101, r102, r103, r104, r105, r106, r107, r108, r109, r110, r111, r112, r113, r114, r115, r116, r117, r118, r119, r120, r121, r122, r123, r124, r125, r126, r127, r128, r129, r130, r131, r132, r133, r134, r135, r136, r137⟩ := hR
  have q8 : v 8 = v 0 / 2 ^ (8 * 1) := shr_1 r8
  have q11 : v 11 = v 0 / 2 ^ (8 * 2) := shr_k q8 r11
  have q14 : v 14 = v 0 / 2 ^ (8 * 3) := shr_k q11 r14
  have q17 : v 17 = v 0 / 2 ^ (8 * 4) := shr_k q14 r17
  have q20 : v 20 = v 0 / 2 ^ (8 * 5) := shr_k q17 r20
  have q23 : v 23 = v 0 / 2 ^ (8 * 6) := shr_k q20 r23
  have q26 : v 26 = v 0 / 2 ^ (8 * 7) := shr_k q23 r26
  have q30 : v 30 = v 1 / 2 ^ (8 * 1) := shr_1 r30
  have q33 : v 33 = v 1 / 2 ^ (8 * 2) := shr_k q30 r33
  have q36 : v 36 = v 1 / 2 ^ (8 * 3) := shr_k q33 r36
  have q39 : v 39 = v 1 / 2 ^ (8 * 4) := shr_k q36 r39
  have q42 : v 42 = v 1 / 2 ^ (8 * 5) := shr_k q39 r42
  have q45 : v 45 = v 1 / 2 ^ (8 * 6) := shr_k q42 r45
  have q48 : v 48 = v 1 / 2 ^ (8 * 7) := shr_k q45 r48
  have q52 : v 52 = v 2 / 2 ^ (8 * 1) := shr_1 r52
  have q55 : v 55 = v 2 / 2 ^ (8 * 2) := shr_k q52 r55
  have q58 : v 58 = v 2 / 2 ^ (8 * 3) := shr_k q55 r58
  have q61 : v 61 = v 2 / 2 ^ (8 * 4) := shr_k q58 r61
  have q64 : v 64 = v 2 / 2 ^ (8 * 5) := shr_k q61 r64
  have q67 : v 67 = v 2 / 2 ^ (8 * 6) := shr_k q64 r67
  have q70 : v 70 = v 2 / 2 ^ (8 * 7) := shr_k q67 r70
  have q74 : v 74 = v 3 / 2 ^ (8 * 1) := shr_1 r74
  have q77 : v 77 = v 3 / 2 ^ (8 * 2) := shr_k q74 r77
  have q80 : v 80 = v 3 / 2 ^ (8 * 3) := shr_k q77 r80
  have q83 : v 83 = v 3 / 2 ^ (8 * 4) := shr_k q80 r83
  have q86 : v 86 = v 3 / 2 ^ (8 * 5) := shr_k q83 r86
  have q89 : v 89 = v 3 / 2 ^ (8 * 6) := shr_k q86 r89
  have q92 : v 92 = v 3 / 2 ^ (8 * 7) := shr_k q89 r92
  have q96 : v 96 = v 4 / 2 ^ (8 * 1) := shr_1 r96
  have q99 : v 99 = v 4 / 2 ^ (8 * 2) := shr_k q96 r99
  have q102 : v 102 = v 4 / 2 ^ (8 * 3) := shr_k q99 r102
  have q105 : v 105 = v 4 / 2 ^ (8 * 4) := shr_k q102 r105
  have q108 : v 108 = v 4 / 2 ^ (8 * 5) := shr_k q105 r108
  have q111 : v 111 = v 4 / 2 ^ (8 * 6) := shr_k q108 r111
  have q114 : v 114 = v 4 / 2 ^ (8 * 7) := shr_k q111 r114
  have q118 : v 118 = v 5 / 2 ^ (8 * 1) := shr_1 r118
  have q121 : v 121 = v 5 / 2 ^ (8 * 2) := shr_k q118 r121
  have q124 : v 124 = v 5 / 2 ^ (8 * 3) := shr_k q121 r124
  have q127 : v 127 = v 5 / 2 ^ (8 * 4) := shr_k q124 r127
  have q130 : v 130 = v 5 / 2 ^ (8 * 5) := shr_k q127 r130
  have q133 : v 133 = v 5 / 2 ^ (8 * 6) := shr_k q130 r133
  have q136 : v 136 = v 5 / 2 ^ (8 * 7) := shr_k q133 r136
  exact cons2 (low_0 r6 r7) (cons2 (low_k q8 r9 r10) (cons2 (low_k q11 r12 r13) (cons2 (low_k q14 r15 r16) (cons2 (low_k q17 r18 r19) (cons2 (low_k q20 r21 r22) (cons2 (low_k q23 r24 r25) (cons2 (low_1 q26 r27) (cons2 (low_0 r28 r29) (cons2 (low_k q30 r31 r32) (cons2 (low_k q33 r34 r35) (cons2 (low_k q36 r37 r38) (cons2 (low_k q39 r40 r41) (cons2 (low_k q42 r43 r44) (cons2 (low_k q45 r46 r47) (cons2 (low_1 q48 r49) (cons2 (low_0 r50 r51) (cons2 (low_k q52 r53 r54) (cons2 (low_k q55 r56 r57) (cons2 (low_k q58 r59 r60) (cons2 (low_k q61 r62 r63) (cons2 (low_k q64 r65 r66) (cons2 (low_k q67 r68 r69) (cons2 (low_1 q70 r71) (cons2 (low_0 r72 r73) (cons2 (low_k q74 r75 r76) (cons2 (low_k q77 r78 r79) (cons2 (low_k q80 r81 r82) (cons2 (low_k q83 r84 r85) (cons2 (low_k q86 r87 r88) (cons2 (low_k q89 r90 r91) (cons2 (low_1 q92 r93) (cons2 (low_0 r94 r95) (cons2 (low_k q96 r97 r98) (cons2 (low_k q99 r100 r101) (cons2 (low_k q102 r103 r104) (cons2 (low_k q105 r106 r107) (cons2 (low_k q108 r109 r110) (cons2 (low_k q111 r112 r113) (cons2 (low_1 q114 r115) (cons2 (low_0 r116 r117) (cons2 (low_k q118 r119 r120) (cons2 (low_k q121 r122 r123) (cons2 (low_k q124 r125 r126) (cons2 (low_k q127 r128 r129) (cons2 (low_k q130 r131 r132) (cons2 (low_k q133 r134 r135) (cons2 (low_1 q136 r137) (rfl))))))))))))))))))))))))))))))))))))))))))))))))

set_option maxRecDepth 100000 in
theorem outsFrom (v : Nat → Nat) (_ : ∀ i, v i < 18446744073709551616) (hR : ∀ r ∈ rsFrom, r.holds v) (hl : ∀ i, i < 48 → v i < 256) :
    [v 96, v 103, v 110, v 117, v 124, v 131] = wordsB [v 0, v 1, v 2, v 3, v 4, v 5, v 6, v 7, v 8, v 9, v 10, v 11, v 12, v 13, v 14, v 15, v 16, v 17, v 18, v 19, v 20, v 21, v 22, v 23, v 24, v 25, v 26, v 27, v 28, v 29, v 30, v 31, v 32, v 33, v 34, v 35, v 36, v 37, v 38, v 39, v 40, v 41, v 42, v 43, v 44, v 45, v 46, v 47] := by
  simp only [rsFrom, List.forall_mem_cons, Sym.R.holds_shl, Sym.R.holds_sum, Sym.A.val_var, Sym.nil_rel, and_true] at hR
  obtain ⟨r48, r49, r50, r51, r52, r53, r54, r55, r56, r57, r58, r59, r60, r61, r62, r63, r64, r65, r66, r67, r68, r69, r70, r71, r72, r73, r74, r75, r76, r77, r78, r79, r80, r81, r82, r83, r84, r85, r86, r87, r88, r89, r90, r91, r92, r93, r94, r95, r96, r97, r98, r99, r100, r101, r102, r103, r104, r105, r106, r107, r108, r109, r110, r111, r112, r113, r114, r115, r116, r117, r118, r119, r120, r121, r122, r123, r124, r125, r126, r127, r128, r129, r130, r131⟩ := hR
  exact cons2 (join8 (hl 0 (by decide)) (hl 1 (by decide)) (hl 2 (by decide)) (hl 3 (by decide)) (hl 4 (by decide)) (hl 5 (by decide)) (hl 6 (by decide)) (hl 7 (by decide)) r89 r88 r87 r86 r85 r84 r83 r90 r91 r92 r93 r94 r95 r96) (cons2 (join8 (hl 8 (by decide)) (hl 9 (by decide)) (hl 10 (by decide)) (hl 11 (by decide)) (hl 12 (by decide)) (hl 13 (by decide)) (hl 14 (by decide)) (hl 15 (by decide)) r82 r81 r80 r79 r78 r77 r76 r97 r98 r99 r100 r101 r102 r103) (cons2 (join8 (hl 16 (by decide)) (hl 17 (by decide)) (hl 18 (by decide)) (hl 19 (by decide)) (hl 20 (by decide)) (hl 21 (by decide)) (hl 22 (by decide)) (hl 23 (by decide)) r75 r74 r73 r72 r71 r70 r69 r104 r105 r106 r107 r108 r109 r110) (cons2 (join8 (hl 24 (by decide)) (hl 25 (by decide)) (hl 26 (by decide)) (hl 27 (by decide)) (hl 28 (by decide)) (hl 29 (by decide)) (hl 30 (by decide)) (hl 31 (by decide)) r68 r67 r66 r65 r64 r63 r62 r111 r112 r113 r114 r115 r116 r117) (cons2 (join8 (hl 32 (by decide)) (hl 33 (by decide)) (hl 34 (by decide)) (hl 35 (by decide)) (hl 36 (by decide)) (hl 37 (by decide)) (hl 38 (by decide)) (hl 39 (by decide)) r61 r60 r59 r58 r57 r56 r55 r118 r119 r120 r121 r122 r123 r124) (cons2 (join8 (hl 40 (by decide)) (hl 41 (by decide)) (hl 42 (by decide)) (hl 43 (by decide)) (hl 44 (by decide)) (hl 45 (by decide)) (hl 46 (by decide)) (hl 47 (by decide)) r54 r53 r52 r51 r50 r49 r48 r125 r126 r127 r128 r129 r130 r131) (rfl))))))

set_option maxRecDepth 100000 in
theorem leafToBytes (w : World) (gz gx : Nat) (xs : List Nat) (hla : xs.length = 6) (ha : Ws xs) (nd : [gz, gx].Nodup)
    (hz : w.heap[gz]? = some (.cells zeroBytes 32 (0, 0))) (hx : w.heap[gx]? = some (.cells (xs.map u64).toArray 23 (0, 0))) :
    Calls Try.prog 29 #[.pointer (some ⟨gz, 0, none⟩), .pointer (some ⟨gx, 0, none⟩)] w fun e w' =>
      e = .returned (.tuple #[]) ∧ Sym.Wrote gz (.cells ((bytesAll xs).map u8).toArray 32 (0, 0)) w w' := by
  obtain ⟨a0, a1, a2, a3, a4, a5, rfl⟩ := len_all hla
  obtain ⟨v, e, hv, hR⟩ := Sym.exists_numbers rsTo 6 0 (fun i => ([a0, a1, a2, a3, a4, a5]).getD i 0) (getD_lt ha) (fun i h => by simp at h) (fun i h => by simp at h) (by kernel_rfl)
  obtain rfl : v 0 = a0 := e 0 (by decide)
  obtain rfl : v 1 = a1 := e 1 (by decide)
  obtain rfl : v 2 = a2 := e 2 (by decide)
  obtain rfl : v 3 = a3 := e 3 (by decide)
  obtain rfl : v 4 = a4 := e 4 (by decide)
  obtain rfl : v 5 = a5 := e 5 (by decide)
  clear e
  have hlt : ∀ x ∈ [gz, gx], x < w.heap.size := by
    intro x hx'
    simp only [List.mem_cons, List.not_mem_nil, or_false] at hx'
    rcases hx' with rfl | rfl
    · exact size_of hz
    · exact size_of hx
  have key := Sym.call_leaf facts Try.func29 (by kernel_rfl) (of_decide_eq_true (by kernel_rfl)) nd hlt rfl runTo v hv hR hz (by
    intro i c t g hi hg
    match i, hi, hg with
    | 0, hi, hg => cases hi; cases hg; exact hx
    | i + 1, hi, hg => simp at hi)
  have ho := outsTo v hv hR
  refine Calls.mono key ?_
  rintro e w' ⟨he, hw⟩
  refine ⟨he, ?_⟩
  rw [← ho]
  exact hw

set_option maxRecDepth 100000 in
theorem leafFromBytes (w : World) (gz gx : Nat) (xs : List Nat) (hla : xs.length = 48) (ha : Ws xs) (hb : ∀ x ∈ xs, x < 256) (nd : [gz, gx].Nodup)
    (hz : w.heap[gz]? = some (.cells zeroCells 23 (0, 0))) (hx : w.heap[gx]? = some (.cells (xs.map u8).toArray 32 (0, 0))) :
    Calls Try.prog 30 #[.pointer (some ⟨gz, 0, none⟩), .pointer (some ⟨gx, 0, none⟩)] w fun e w' =>
      e = .returned (.tuple #[]) ∧ Sym.Wrote gz (.cells ((wordsB xs).map u64).toArray 23 (0, 0)) w w' := by
  obtain ⟨c0, c1, c2, c3, c4, c5, c6, c7, c8, c9, c10, c11, c12, c13, c14, c15, c16, c17, c18, c19, c20, c21, c22, c23, c24, c25, c26, c27, c28, c29, c30, c31, c32, c33, c34, c35, c36, c37, c38, c39, c40, c41, c42, c43, c44, c45, c46, c47, rfl⟩ := len_bytes hla
  obtain ⟨v, e, hv, hR⟩ := Sym.exists_numbers rsFrom 48 0 (fun i => ([c0, c1, c2, c3, c4, c5, c6, c7, c8, c9, c10, c11, c12, c13, c14, c15, c16, c17, c18, c19, c20, c21, c22, c23, c24, c25, c26, c27, c28, c29, c30, c31, c32, c33, c34, c35, c36, c37, c38, c39, c40, c41, c42, c43, c44, c45, c46, c47]).getD i 0) (getD_lt ha) (fun i h => by simp at h) (fun i h => by simp at h) (by kernel_rfl)
  obtain rfl : v 0 = c0 := e 0 (by decide)
  obtain rfl : v 1 = c1 := e 1 (by decide)
  obtain rfl : v 2 = c2 := e 2 (by decide)
  obtain rfl : v 3 = c3 := e 3 (by decide)
  obtain rfl : v 4 = c4 := e 4 (by decide)
  obtain rfl : v 5 = c5 := e 5 (by decide)
  obtain rfl : v 6 = c6 := e 6 (by decide)
  obtain rfl : v 7 = c7 := e 7 (by decide)
  obtain rfl : v 8 = c8 := e 8 (by decide)
  obtain rfl : v 9 = c9 := e 9 (by decide)
  obtain rfl : v 10 = c10 := e 10 (by decide)
  obtain rfl : v 11 = c11 := e 11 (by decide)
  obtain rfl : v 12 = c12 := e 12 (by decide)
  obtain rfl : v 13 = c13 := e 13 (by decide)
  obtain rfl : v 14 = c14 := e 14 (by decide)
  obtain rfl : v 15 = c15 := e 15 (by decide)
  obtain rfl : v 16 = c16 := e 16 (by decide)
  obtain rfl : v 17 = c17 := e 17 (by decide)
  obtain rfl : v 18 = c18 := e 18 (by decide)
  obtain rfl : v 19 = c19 := e 19 (by decide)
  obtain rfl : v 20 = c20 := e 20 (by decide)
  obtain rfl : v 21 = c21 := e 21 (by decide)
  obtain rfl : v 22 = c22 := e 22 (by decide)
  obtain rfl : v 23 = c23 := e 23 (by decide)
  obtain rfl : v 24 = c24 := e 24 (by decide)
  obtain rfl : v 25 = c25 := e 25 (by decide)
  obtain rfl : v 26 = c26 := e 26 (by decide)
  obtain rfl : v 27 = c27 := e 27 (by decide)
  obtain rfl : v 28 = c28 := e 28 (by decide)
  obtain rfl : v 29 = c29 := e 29 (by decide)
  obtain rfl : v 30 = c30 := e 30 (by decide)
  obtain rfl : v 31 = c31 := e 31 (by decide)
  obtain rfl : v 32 = c32 := e 32 (by decide)
  obtain rfl : v 33 = c33 := e 33 (by decide)
  obtain rfl : v 34 = c34 := e 34 (by decide)
  obtain rfl : v 35 = c35 := e 35 (by decide)
  obtain rfl : v 36 = c36 := e 36 (by decide)
  obtain rfl : v 37 = c37 := e 37 (by decide)
  obtain rfl : v 38 = c38 := e 38 (by decide)
  obtain rfl : v 39 = c39 := e 39 (by decide)
  obtain rfl : v 40 = c40 := e 40 (by decide)
  obtain rfl : v 41 = c41 := e 41 (by decide)
  obtain rfl : v 42 = c42 := e 42 (by decide)
  obtain rfl : v 43 = c43 := e 43 (by decide)
  obtain rfl : v 44 = c44 := e 44 (by decide)
  obtain rfl : v 45 = c45 := e 45 (by decide)
  obtain rfl : v 46 = c46 := e 46 (by decide)
  obtain rfl : v 47 = c47 := e 47 (by decide)
  clear e
  have hlt : ∀ x ∈ [gz, gx], x < w.heap.size := by
    intro x hx'
    simp only [List.mem_cons, List.not_mem_nil, or_false] at hx'
    rcases hx' with rfl | rfl
    · exact size_of hz
    · exact size_of hx
  have key := Sym.call_leaf facts Try.func30 (by kernel_rfl) (of_decide_eq_true (by kernel_rfl)) nd hlt rfl runFrom v hv hR hz (by
    intro i c t g hi hg
    match i, hi, hg with
    | 0, hi, hg => cases hi; cases hg; exact hx
    | i + 1, hi, hg => simp at hi)
  have ho := outsFrom v hv hR (fun i hi => hb (v i) (by rw [show [v 0, v 1, v 2, v 3, v 4, v 5, v 6, v 7, v 8, v 9, v 10, v 11, v 12, v 13, v 14, v 15, v 16, v 17, v 18, v 19, v 20, v 21, v 22, v 23, v 24, v 25, v 26, v 27, v 28, v 29, v 30, v 31, v 32, v 33, v 34, v 35, v 36, v 37, v 38, v 39, v 40, v 41, v 42, v 43, v 44, v 45, v 46, v 47] = (List.range 48).map v from rfl]; exact List.mem_map.2 ⟨i, List.mem_range.2 hi, rfl⟩))
  refine Calls.mono key ?_
  rintro e w' ⟨he, hw⟩
  refine ⟨he, ?_⟩
  rw [← ho]
  exact hw

end Go.Proofs.Ytigifpdcamcanaa
