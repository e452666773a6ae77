/-
  What the straight-line functions of this field compute, through pointers: sums and differences modulo the prime, a choice.
-/
import Derived.Test.YtomnhlhgikplaaaBase
import Derived.Test.YtomnhlhgikplaaaFacts
namespace Go.Proofs.Ytomnhlhgikplaaa
open Go.RowKit Num

def u64 (n : Nat) : Value := .int .u64 (n : Int)
def u8 (n : Nat) : Value := .int .u8 (n : Int)
def prime : Nat := 115792089210356248762697446949407573530086143415290314195533631308867097853951
def pwords : List Nat := [18446744073709551615, 4294967295, 0, 18446744069414584321]
theorem pwords_val : val pwords = prime := by decide +kernel
theorem pwords_ws : Ws pwords := by unfold Ws pwords; simp
theorem len_all {l : List Nat} (h : l.length = 4) : ∃ a0 a1 a2 a3 : Nat, l = [a0, a1, a2, a3] := by
  match l, h with
  | [a0, a1, a2, a3], _ => exact ⟨_, _, _, _, rfl⟩
def rsAdd : List Sym.R := [.add 8 (.var 0) (.var 4) (.lit 0), .add 10 (.var 1) (.var 5) (.var 9), .add 12 (.var 2) (.var 6) (.var 11), .add 14 (.var 3) (.var 7) (.var 13), .sub 16 (.var 8) (.lit 18446744073709551615) (.lit 0), .sub 18 (.var 10) (.lit 4294967295) (.var 17), .sub 20 (.var 12) (.lit 0) (.var 19), .sub 22 (.var 14) (.lit 18446744069414584321) (.var 21), .sub 24 (.var 15) (.lit 0) (.var 23), .cmov 26 (.var 25) (.var 16) (.var 8), .cmov 27 (.var 25) (.var 18) (.var 10), .cmov 28 (.var 25) (.var 20) (.var 12), .cmov 29 (.var 25) (.var 22) (.var 14)]
theorem runAdd : Sym.run cx Try.f27 [.p 0 0, .p 1 0, .p 2 0] [([.k (.int .u64 0), .k (.int .u64 0), .k (.int .u64 0), .k (.int .u64 0)], 43), ([.w 0, .w 1, .w 2, .w 3], 43), ([.w 4, .w 5, .w 6, .w 7], 43)] 8 = some (([.w 26, .w 27, .w 28, .w 29], 43) :: ([([.w 0, .w 1, .w 2, .w 3], 43), ([.w 4, .w 5, .w 6, .w 7], 43)] ++ [([.w 26], 22), ([.w 27], 22), ([.w 28], 22), ([.w 29], 22)]), rsAdd) := by kernel_rfl
def rsSub : List Sym.R := [.sub 8 (.var 0) (.var 4) (.lit 0), .sub 10 (.var 1) (.var 5) (.var 9), .sub 12 (.var 2) (.var 6) (.var 11), .sub 14 (.var 3) (.var 7) (.var 13), .cmov 16 (.var 15) (.lit 0) (.lit 18446744073709551615), .add 17 (.var 8) (.var 16) (.lit 0), .and 19 (.var 16) (.lit 4294967295), .add 20 (.var 10) (.var 19) (.var 18), .add 22 (.var 12) (.lit 0) (.var 21), .and 24 (.var 16) (.lit 18446744069414584321), .add 25 (.var 14) (.var 24) (.var 23)]
theorem runSub : Sym.run cx Try.f29 [.p 0 0, .p 1 0, .p 2 0] [([.k (.int .u64 0), .k (.int .u64 0), .k (.int .u64 0), .k (.int .u64 0)], 43), ([.w 0, .w 1, .w 2, .w 3], 43), ([.w 4, .w 5, .w 6, .w 7], 43)] 8 = some (([.w 17, .w 20, .w 22, .w 25], 43) :: ([([.w 0, .w 1, .w 2, .w 3], 43), ([.w 4, .w 5, .w 6, .w 7], 43)] ++ [([.w 16], 22)]), rsSub) := by kernel_rfl
def rsSelect : List Sym.R := [.cmov 9 (.var 8) (.var 0) (.var 4), .cmov 10 (.var 8) (.var 1) (.var 5), .cmov 11 (.var 8) (.var 2) (.var 6), .cmov 12 (.var 8) (.var 3) (.var 7)]
theorem runSelect : Sym.run cx Try.f26 [.p 0 0, .w 8, .p 1 0, .p 2 0] [([.k (.int .u64 0), .k (.int .u64 0), .k (.int .u64 0), .k (.int .u64 0)], 23), ([.w 0, .w 1, .w 2, .w 3], 23), ([.w 4, .w 5, .w 6, .w 7], 23)] 9 = some (([.w 9, .w 10, .w 11, .w 12], 23) :: ([([.w 0, .w 1, .w 2, .w 3], 23), ([.w 4, .w 5, .w 6, .w 7], 23)] ++ [([.w 9], 22), ([.w 10], 22), ([.w 11], 22), ([.w 12], 22)]), rsSelect) := by kernel_rfl
theorem getD_lt {l : List Nat} (h : Ws l) (i : Nat) : l.getD i 0 < 18446744073709551616 := by
  rw [List.getD_eq_getElem?_getD]
  by_cases hi : i < l.length
  · rw [List.getElem?_eq_getElem hi]; exact h _ (List.getElem_mem hi)
  · rw [List.getElem?_eq_none (by omega)]; decide
theorem ws_append {l l' : List Nat} (h : Ws l) (h' : Ws l') : Ws (l ++ l') := fun x hx => by
  rcases List.mem_append.1 hx with h1 | h1
  · exact h x h1
  · exact h' x h1
theorem size_of {w : World} {g : Nat} {o : Obj} (h : w.heap[g]? = some o) : g < w.heap.size := by
  rcases Nat.lt_or_ge g w.heap.size with h1 | h1
  · exact h1
  · rw [Array.getElem?_eq_none h1] at h; cases h
def zeroCells : Array Value := #[.int .u64 0, .int .u64 0, .int .u64 0, .int .u64 0]

theorem bit_at {l : List Nat} {c : Nat} (k : Nat) (hc : c ≤ 1) (hl : l.length = k := by rfl) : ∀ i, (2 ^ k).testBit i = true → (l ++ [c]).getD i 0 ≤ 1 := by
  intro i h
  rw [Nat.testBit_two_pow] at h
  simp only [decide_eq_true_eq] at h
  subst h; subst hl
  simpa [List.getD_eq_getElem?_getD] using hc
theorem bit_lt (k : Nat) : ∀ i, (2 ^ k).testBit i = true → i < k + 1 := by
  intro i h
  rw [Nat.testBit_two_pow] at h
  simp only [decide_eq_true_eq] at h
  omega
set_option maxRecDepth 100000 in
theorem outsAdd (v : Nat → Nat) (_ : ∀ i, v i < 18446744073709551616) (hR : ∀ r ∈ rsAdd, r.holds v) (ha : Ws [v 0, v 1, v 2, v 3]) (hb : Ws [v 4, v 5, v 6, v 7]) (lta : val [v 0, v 1, v 2, v 3] < prime) (ltb : val [v 4, v 5, v 6, v 7] < prime) :
    [v 26, v 27, v 28, v 29] = wordsOf 4 ((val [v 0, v 1, v 2, v 3] + val [v 4, v 5, v 6, v 7]) % prime) := by
  simp only [rsAdd, List.forall_mem_cons, Sym.R.holds_add, Sym.R.holds_sub, Sym.R.holds_cmov, Sym.A.val_var, Sym.A.val_lit, Sym.nil_rel, and_true, Nat.reduceAdd] at hR
  obtain ⟨⟨_, r8, r9⟩, ⟨_, r10, r11⟩, ⟨_, r12, r13⟩, ⟨_, r14, r15⟩, ⟨_, r16, r17⟩, ⟨_, r18, r19⟩, ⟨_, r20, r21⟩, ⟨_, r22, r23⟩, ⟨_, r24, r25⟩, ⟨_, r26⟩, ⟨_, r27⟩, ⟨_, r28⟩, ⟨_, r29⟩⟩ := hR
  have h1 : AddC [v 0, v 1, v 2, v 3] [v 4, v 5, v 6, v 7] 0 [v 8, v 10, v 12, v 14] (v 15) := Sym.AddC.cons r8 r9 (Sym.AddC.cons r10 r11 (Sym.AddC.cons r12 r13 (Sym.AddC.cons r14 r15 (Sym.AddC.nil _))))
  have h2 : SubC [v 8, v 10, v 12, v 14] pwords 0 [v 16, v 18, v 20, v 22] (v 23) := Sym.SubC.cons r16 r17 (Sym.SubC.cons r18 r19 (Sym.SubC.cons r20 r21 (Sym.SubC.cons r22 r23 (Sym.SubC.nil _))))
  have h3 := add_mod ha hb pwords_ws rfl rfl pwords_val lta ltb h1 h2
  refine Eq.trans ?_ h3
  rw [Nat.zero_add] at r25
  by_cases hc : v 15 < v 23
  · rw [Sym.bor, if_pos hc] at r25
    rw [if_pos hc, r26, r27, r28, r29, r25]
    rfl
  · rw [Sym.bor, if_neg hc] at r25
    rw [if_neg hc, r26, r27, r28, r29, r25]
    rfl

set_option maxRecDepth 100000 in
theorem outsSub (v : Nat → Nat) (hv : ∀ i, v i < 18446744073709551616) (hR : ∀ r ∈ rsSub, r.holds v) (ha : Ws [v 0, v 1, v 2, v 3]) (hb : Ws [v 4, v 5, v 6, v 7]) (lta : val [v 0, v 1, v 2, v 3] < prime) (ltb : val [v 4, v 5, v 6, v 7] < prime) :
    [v 17, v 20, v 22, v 25] = wordsOf 4 ((val [v 0, v 1, v 2, v 3] + (prime - val [v 4, v 5, v 6, v 7])) % prime) := by
  simp only [rsSub, List.forall_mem_cons, Sym.R.holds_add, Sym.R.holds_sub, Sym.R.holds_cmov, Sym.R.holds_and, Sym.A.val_var, Sym.A.val_lit, Sym.nil_rel, and_true, Nat.reduceAdd] at hR
  obtain ⟨⟨_, r8, r9⟩, ⟨_, r10, r11⟩, ⟨_, r12, r13⟩, ⟨_, r14, r15⟩, ⟨_, r16⟩, ⟨_, r17, r18⟩, r19, ⟨_, r20, r21⟩, ⟨_, r22, r23⟩, r24, ⟨_, r25, r26⟩⟩ := hR
  have h1 : SubC [v 0, v 1, v 2, v 3] [v 4, v 5, v 6, v 7] 0 [v 8, v 10, v 12, v 14] (v 15) := Sym.SubC.cons r8 r9 (Sym.SubC.cons r10 r11 (Sym.SubC.cons r12 r13 (Sym.SubC.cons r14 r15 (Sym.SubC.nil _))))
  have h2 : AddC [v 8, v 10, v 12, v 14] [v 16, v 19, 0, v 24] 0 [v 17, v 20, v 22, v 25] (v 26) := Sym.AddC.cons r17 r18 (Sym.AddC.cons r20 r21 (Sym.AddC.cons r22 r23 (Sym.AddC.cons r25 r26 (Sym.AddC.nil _))))
  have hm : Ws [v 16, v 19, 0, v 24] := (Ws.cons (hv _) (Ws.cons (hv _) (Ws.cons (by decide) (Ws.cons (hv _) Ws.nil))))
  have hmv : val [v 16, v 19, 0, v 24] = if v 15 = 0 then 0 else prime := by
    by_cases hb0 : v 15 = 0
    · have hm0 : v 16 = 0 := by rw [r16, Sym.sel, if_pos hb0]
      have z19 : v 19 = 0 := by rw [r19, hm0]; exact Nat.zero_and _
      have z24 : v 24 = 0 := by rw [r24, hm0]; exact Nat.zero_and _
      rw [if_pos hb0, z19, z24, hm0]
      decide +kernel
    · have hm0 : v 16 = 18446744073709551615 := by rw [r16, Sym.sel, if_neg hb0]
      have z19 : v 19 = 4294967295 := by rw [r19, hm0]; decide +kernel
      have z24 : v 24 = 18446744069414584321 := by rw [r24, hm0]; decide +kernel
      rw [if_neg hb0, z19, z24, hm0]
      decide +kernel
  exact sub_mod ha hb pwords_ws rfl rfl pwords_val lta ltb h1 hm rfl hmv h2

set_option maxRecDepth 100000 in
theorem outsSelect (v : Nat → Nat) (_ : ∀ i, v i < 18446744073709551616) (hR : ∀ r ∈ rsSelect, r.holds v) :
    [v 9, v 10, v 11, v 12] = if v 8 = 0 then [v 0, v 1, v 2, v 3] else [v 4, v 5, v 6, v 7] := by
  simp only [rsSelect, List.forall_mem_cons, Sym.R.holds_cmov, Sym.A.val_var, Sym.nil_rel, and_true] at hR
  obtain ⟨⟨_, r9⟩, ⟨_, r10⟩, ⟨_, r11⟩, ⟨_, r12⟩⟩ := hR
  rw [r9, r10, r11, r12]
  by_cases h0 : v 8 = 0
  · simp only [Sym.sel, h0, if_true]
  · simp only [Sym.sel, h0, if_false]

set_option maxRecDepth 100000 in
theorem leafAdd (w : World) (gz gx gy : Nat) (xs ys : List Nat) (hla : xs.length = 4) (hlb : ys.length = 4) (ha : Ws xs) (hb : Ws ys) (lta : val xs < prime) (ltb : val ys < prime) (nd : [gz, gx, gy].Nodup)
    (hz : w.heap[gz]? = some (.cells zeroCells 43 (0, 0))) (hx : w.heap[gx]? = some (.cells (xs.map u64).toArray 43 (0, 0))) (hy : w.heap[gy]? = some (.cells (ys.map u64).toArray 43 (0, 0))) :
    Calls Try.prog 27 #[.pointer (some ⟨gz, 0, none⟩), .pointer (some ⟨gx, 0, none⟩), .pointer (some ⟨gy, 0, none⟩)] w fun e w' =>
      e = .returned (.tuple #[]) ∧ Sym.Wrote gz (.cells ((wordsOf 4 ((val xs + val ys) % prime)).map u64).toArray 43 (0, 0)) w w' := by
  obtain ⟨a0, a1, a2, a3, rfl⟩ := len_all hla
  obtain ⟨b0, b1, b2, b3, rfl⟩ := len_all hlb
  have hws := ws_append ha hb
  obtain ⟨v, e, hv, hR⟩ := Sym.exists_numbers rsAdd 8 0 (fun i => ([a0, a1, a2, a3, b0, b1, b2, b3]).getD i 0) (getD_lt hws) (fun i h => by simp at h) (fun i h => by simp at h) (by kernel_rfl)
  obtain rfl : v 0 = a0 := e 0 (by decide)
  obtain rfl : v 1 = a1 := e 1 (by decide)
  obtain rfl : v 2 = a2 := e 2 (by decide)
  obtain rfl : v 3 = a3 := e 3 (by decide)
  obtain rfl : v 4 = b0 := e 4 (by decide)
  obtain rfl : v 5 = b1 := e 5 (by decide)
  obtain rfl : v 6 = b2 := e 6 (by decide)
  obtain rfl : v 7 = b3 := e 7 (by decide)
  clear e hws
  have hlt : ∀ x ∈ [gz, gx, gy], x < w.heap.size := by
    intro x hx'
    simp only [List.mem_cons, List.not_mem_nil, or_false] at hx'
    rcases hx' with rfl | rfl | rfl
    · exact size_of hz
    · exact size_of hx
    · exact size_of hy
  have key := Sym.call_leaf facts Try.func27 (by kernel_rfl) (of_decide_eq_true (by kernel_rfl)) nd hlt rfl runAdd v hv hR hz (by
    intro i c t g hi hg
    match i, hi, hg with
    | 0, hi, hg => cases hi; cases hg; exact hx
    | 1, hi, hg => cases hi; cases hg; exact hy
    | i + 2, hi, hg => simp at hi)
  have ho := outsAdd v hv hR ha hb lta ltb
  refine Calls.mono key ?_
  rintro e w' ⟨he, hw⟩
  refine ⟨he, ?_⟩
  rw [← ho]
  exact hw

set_option maxRecDepth 100000 in
theorem leafSub (w : World) (gz gx gy : Nat) (xs ys : List Nat) (hla : xs.length = 4) (hlb : ys.length = 4) (ha : Ws xs) (hb : Ws ys) (lta : val xs < prime) (ltb : val ys < prime) (nd : [gz, gx, gy].Nodup)
    (hz : w.heap[gz]? = some (.cells zeroCells 43 (0, 0))) (hx : w.heap[gx]? = some (.cells (xs.map u64).toArray 43 (0, 0))) (hy : w.heap[gy]? = some (.cells (ys.map u64).toArray 43 (0, 0))) :
    Calls Try.prog 29 #[.pointer (some ⟨gz, 0, none⟩), .pointer (some ⟨gx, 0, none⟩), .pointer (some ⟨gy, 0, none⟩)] w fun e w' =>
      e = .returned (.tuple #[]) ∧ Sym.Wrote gz (.cells ((wordsOf 4 ((val xs + (prime - val ys)) % prime)).map u64).toArray 43 (0, 0)) w w' := by
  obtain ⟨a0, a1, a2, a3, rfl⟩ := len_all hla
  obtain ⟨b0, b1, b2, b3, rfl⟩ := len_all hlb
  have hws := ws_append ha hb
  obtain ⟨v, e, hv, hR⟩ := Sym.exists_numbers rsSub 8 0 (fun i => ([a0, a1, a2, a3, b0, b1, b2, b3]).getD i 0) (getD_lt hws) (fun i h => by simp at h) (fun i h => by simp at h) (by kernel_rfl)
  obtain rfl : v 0 = a0 := e 0 (by decide)
  obtain rfl : v 1 = a1 := e 1 (by decide)
  obtain rfl : v 2 = a2 := e 2 (by decide)
  obtain rfl : v 3 = a3 := e 3 (by decide)
  obtain rfl : v 4 = b0 := e 4 (by decide)
  obtain rfl : v 5 = b1 := e 5 (by decide)
  obtain rfl : v 6 = b2 := e 6 (by decide)
  obtain rfl : v 7 = b3 := e 7 (by decide)
  clear e hws
  have hlt : ∀ x ∈ [gz, gx, gy], x < w.heap.size := by
    intro x hx'
    simp only [List.mem_cons, List.not_mem_nil, or_false] at hx'
    rcases hx' with rfl | rfl | rfl
    · exact size_of hz
    · exact size_of hx
    · exact size_of hy
  have key := Sym.call_leaf facts Try.func29 (by kernel_rfl) (of_decide_eq_true (by kernel_rfl)) nd hlt rfl runSub v hv hR hz (by
    intro i c t g hi hg
    match i, hi, hg with
    | 0, hi, hg => cases hi; cases hg; exact hx
    | 1, hi, hg => cases hi; cases hg; exact hy
    | i + 2, hi, hg => simp at hi)
  have ho := outsSub v hv hR ha hb lta ltb
  refine Calls.mono key ?_
  rintro e w' ⟨he, hw⟩
  refine ⟨he, ?_⟩
  rw [← ho]
  exact hw

set_option maxRecDepth 100000 in
theorem leafSelect (w : World) (gz gx gy : Nat) (xs ys : List Nat) (hla : xs.length = 4) (hlb : ys.length = 4) (ha : Ws xs) (hb : Ws ys) (cond : Nat) (hc : cond ≤ 1) (nd : [gz, gx, gy].Nodup)
    (hz : w.heap[gz]? = some (.cells zeroCells 23 (0, 0))) (hx : w.heap[gx]? = some (.cells (xs.map u64).toArray 23 (0, 0))) (hy : w.heap[gy]? = some (.cells (ys.map u64).toArray 23 (0, 0))) :
    Calls Try.prog 26 #[.pointer (some ⟨gz, 0, none⟩), .int .u64 cond, .pointer (some ⟨gx, 0, none⟩), .pointer (some ⟨gy, 0, none⟩)] w fun e w' =>
      e = .returned (.tuple #[]) ∧ Sym.Wrote gz (.cells ((if cond = 0 then xs else ys).map u64).toArray 23 (0, 0)) w w' := by
  obtain ⟨a0, a1, a2, a3, rfl⟩ := len_all hla
  obtain ⟨b0, b1, b2, b3, rfl⟩ := len_all hlb
  have hws := ws_append ha hb
  replace hws := ws_append hws (Ws.cons (x := cond) (by omega) Ws.nil)
  obtain ⟨v, e, hv, hR⟩ := Sym.exists_numbers rsSelect 9 256 (fun i => ([a0, a1, a2, a3, b0, b1, b2, b3, cond]).getD i 0) (getD_lt hws) (bit_at (l := [a0, a1, a2, a3, b0, b1, b2, b3]) 8 hc) (bit_lt 8) (by kernel_rfl)
  obtain rfl : v 0 = a0 := e 0 (by decide)
  obtain rfl : v 1 = a1 := e 1 (by decide)
  obtain rfl : v 2 = a2 := e 2 (by decide)
  obtain rfl : v 3 = a3 := e 3 (by decide)
  obtain rfl : v 4 = b0 := e 4 (by decide)
  obtain rfl : v 5 = b1 := e 5 (by decide)
  obtain rfl : v 6 = b2 := e 6 (by decide)
  obtain rfl : v 7 = b3 := e 7 (by decide)
  obtain rfl : v 8 = cond := e 8 (by decide)
  clear e hws
  have hlt : ∀ x ∈ [gz, gx, gy], x < w.heap.size := by
    intro x hx'
    simp only [List.mem_cons, List.not_mem_nil, or_false] at hx'
    rcases hx' with rfl | rfl | rfl
    · exact size_of hz
    · exact size_of hx
    · exact size_of hy
  have key := Sym.call_leaf facts Try.func26 (by kernel_rfl) (of_decide_eq_true (by kernel_rfl)) nd hlt rfl runSelect v hv hR hz (by
    intro i c t g hi hg
    match i, hi, hg with
    | 0, hi, hg => cases hi; cases hg; exact hx
    | 1, hi, hg => cases hi; cases hg; exact hy
    | i + 2, hi, hg => simp at hi)
  have ho := outsSelect v hv hR
  refine Calls.mono key ?_
  rintro e w' ⟨he, hw⟩
  refine ⟨he, ?_⟩
  rw [← ho]
  exact hw

def bytesAll (l : List Nat) : List Nat := [byteAt l 0, byteAt l 1, byteAt l 2, byteAt l 3, byteAt l 4, byteAt l 5, byteAt l 6, byteAt l 7, byteAt l 8, byteAt l 9, byteAt l 10, byteAt l 11, byteAt l 12, byteAt l 13, byteAt l 14, byteAt l 15, byteAt l 16, byteAt l 17, byteAt l 18, byteAt l 19, byteAt l 20, byteAt l 21, byteAt l 22, byteAt l 23, byteAt l 24, byteAt l 25, byteAt l 26, byteAt l 27, byteAt l 28, byteAt l 29, byteAt l 30, byteAt l 31]
def wordsB (l : List Nat) : List Nat := [valB ((l.drop 0).take 8), valB ((l.drop 8).take 8), valB ((l.drop 16).take 8), valB ((l.drop 24).take 8)]
theorem len_bytes {l : List Nat} (h : l.length = 32) : ∃ c0 c1 c2 c3 c4 c5 c6 c7 c8 c9 c10 c11 c12 c13 c14 c15 c16 c17 c18 c19 c20 c21 c22 c23 c24 c25 c26 c27 c28 c29 c30 c31 : Nat, l = [c0, c1, c2, c3, c4, c5, c6, c7, c8, c9, c10, c11, c12, c13, c14, c15, c16, c17, c18, c19, c20, c21, c22, c23, c24, c25, c26, c27, c28, c29, c30, c31] := by
  match l, h with
  | c0 :: c1 :: c2 :: c3 :: c4 :: c5 :: c6 :: c7 :: c8 :: c9 :: c10 :: c11 :: c12 :: c13 :: c14 :: c15 :: c16 :: c17 :: c18 :: c19 :: c20 :: c21 :: c22 :: c23 :: c24 :: c25 :: c26 :: c27 :: c28 :: c29 :: c30 :: c31 :: [], _ => exact ⟨_, _, _, _, _, _, _, _, _, _, _, _, _, _, _, _, _, _, _, _, _, _, _, _, _, _, _, _, _, _, _, _, rfl⟩
def zeroBytes : Array Value := #[.int .u8 0, .int .u8 0, .int .u8 0, .int .u8 0, .int .u8 0, .int .u8 0, .int .u8 0, .int .u8 0, .int .u8 0, .int .u8 0, .int .u8 0, .int .u8 0, .int .u8 0, .int .u8 0, .int .u8 0, .int .u8 0, .int .u8 0, .int .u8 0, .int .u8 0, .int .u8 0, .int .u8 0, .int .u8 0, .int .u8 0, .int .u8 0, .int .u8 0, .int .u8 0, .int .u8 0, .int .u8 0, .int .u8 0, .int .u8 0, .int .u8 0, .int .u8 0]
def rsTo : List Sym.R := [.low 4 (.var 0), .low 5 (.var 4), .shr 6 (.var 0) 8, .low 7 (.var 6), .low 8 (.var 7), .shr 9 (.var 6) 8, .low 10 (.var 9), .low 11 (.var 10), .shr 12 (.var 9) 8, .low 13 (.var 12), .low 14 (.var 13), .shr 15 (.var 12) 8, .low 16 (.var 15), .low 17 (.var 16), .shr 18 (.var 15) 8, .low 19 (.var 18), .low 20 (.var 19), .shr 21 (.var 18) 8, .low 22 (.var 21), .low 23 (.var 22), .shr 24 (.var 21) 8, .low 25 (.var 24), .low 26 (.var 1), .low 27 (.var 26), .shr 28 (.var 1) 8, .low 29 (.var 28), .low 30 (.var 29), .shr 31 (.var 28) 8, .low 32 (.var 31), .low 33 (.var 32), .shr 34 (.var 31) 8, .low 35 (.var 34), .low 36 (.var 35), .shr 37 (.var 34) 8, .low 38 (.var 37), .low 39 (.var 38), .shr 40 (.var 37) 8, .low 41 (.var 40), .low 42 (.var 41), .shr 43 (.var 40) 8, .low 44 (.var 43), .low 45 (.var 44), .shr 46 (.var 43) 8, .low 47 (.var 46), .low 48 (.var 2), .low 49 (.var 48), .shr 50 (.var 2) 8, .low 51 (.var 50), .low 52 (.var 51), .shr 53 (.var 50) 8, .low 54 (.var 53), .low 55 (.var 54), .shr 56 (.var 53) 8, .low 57 (.var 56), .low 58 (.var 57), .shr 59 (.var 56) 8, .low 60 (.var 59), .low 61 (.var 60), .shr 62 (.var 59) 8, .low 63 (.var 62), .low 64 (.var 63), .shr 65 (.var 62) 8, .low 66 (.var 65), .low 67 (.var 66), .shr 68 (.var 65) 8, .low 69 (.var 68), .low 70 (.var 3), .low 71 (.var 70), .shr 72 (.var 3) 8, .low 73 (.var 72), .low 74 (.var 73), .shr 75 (.var 72) 8, .low 76 (.var 75), .low 77 (.var 76), .shr 78 (.var 75) 8, .low 79 (.var 78), .low 80 (.var 79), .shr 81 (.var 78) 8, .low 82 (.var 81), .low 83 (.var 82), .shr 84 (.var 81) 8, .low 85 (.var 84), .low 86 (.var 85), .shr 87 (.var 84) 8, .low 88 (.var 87), .low 89 (.var 88), .shr 90 (.var 87) 8, .low 91 (.var 90)]
theorem runTo : Sym.run cx Try.f28 [.p 0 0, .p 1 0] [([.k (.int .u8 0), .k (.int .u8 0), .k (.int .u8 0), .k (.int .u8 0), .k (.int .u8 0), .k (.int .u8 0), .k (.int .u8 0), .k (.int .u8 0), .k (.int .u8 0), .k (.int .u8 0), .k (.int .u8 0), .k (.int .u8 0), .k (.int .u8 0), .k (.int .u8 0), .k (.int .u8 0), .k (.int .u8 0), .k (.int .u8 0), .k (.int .u8 0), .k (.int .u8 0), .k (.int .u8 0), .k (.int .u8 0), .k (.int .u8 0), .k (.int .u8 0), .k (.int .u8 0), .k (.int .u8 0), .k (.int .u8 0), .k (.int .u8 0), .k (.int .u8 0), .k (.int .u8 0), .k (.int .u8 0), .k (.int .u8 0), .k (.int .u8 0)], 32), ([.w 0, .w 1, .w 2, .w 3], 23)] 4 = some (([.b 5, .b 8, .b 11, .b 14, .b 17, .b 20, .b 23, .b 25, .b 27, .b 30, .b 33, .b 36, .b 39, .b 42, .b 45, .b 47, .b 49, .b 52, .b 55, .b 58, .b 61, .b 64, .b 67, .b 69, .b 71, .b 74, .b 77, .b 80, .b 83, .b 86, .b 89, .b 91], 32) :: ([([.w 0, .w 1, .w 2, .w 3], 23)] ++ []), rsTo) := by kernel_rfl
def rsFrom : List Sym.R := [.shl 32 (.var 31) 56, .shl 33 (.var 30) 48, .shl 34 (.var 29) 40, .shl 35 (.var 28) 32, .shl 36 (.var 27) 24, .shl 37 (.var 26) 16, .shl 38 (.var 25) 8, .shl 39 (.var 23) 56, .shl 40 (.var 22) 48, .shl 41 (.var 21) 40, .shl 42 (.var 20) 32, .shl 43 (.var 19) 24, .shl 44 (.var 18) 16, .shl 45 (.var 17) 8, .shl 46 (.var 15) 56, .shl 47 (.var 14) 48, .shl 48 (.var 13) 40, .shl 49 (.var 12) 32, .shl 50 (.var 11) 24, .shl 51 (.var 10) 16, .shl 52 (.var 9) 8, .shl 53 (.var 7) 56, .shl 54 (.var 6) 48, .shl 55 (.var 5) 40, .shl 56 (.var 4) 32, .shl 57 (.var 3) 24, .shl 58 (.var 2) 16, .shl 59 (.var 1) 8, .sum 60 (.var 59) (.var 0), .sum 61 (.var 58) (.var 60), .sum 62 (.var 57) (.var 61), .sum 63 (.var 56) (.var 62), .sum 64 (.var 55) (.var 63), .sum 65 (.var 54) (.var 64), .sum 66 (.var 53) (.var 65), .sum 67 (.var 52) (.var 8), .sum 68 (.var 51) (.var 67), .sum 69 (.var 50) (.var 68), .sum 70 (.var 49) (.var 69), .sum 71 (.var 48) (.var 70), .sum 72 (.var 47) (.var 71), .sum 73 (.var 46) (.var 72), .sum 74 (.var 45) (.var 16), .sum 75 (.var 44) (.var 74), .sum 76 (.var 43) (.var 75), .sum 77 (.var 42) (.var 76), .sum 78 (.var 41) (.var 77), .sum 79 (.var 40) (.var 78), .sum 80 (.var 39) (.var 79), .sum 81 (.var 38) (.var 24), .sum 82 (.var 37) (.var 81), .sum 83 (.var 36) (.var 82), .sum 84 (.var 35) (.var 83), .sum 85 (.var 34) (.var 84), .sum 86 (.var 33) (.var 85), .sum 87 (.var 32) (.var 86)]
theorem runFrom : Sym.run cx Try.f30 [.p 0 0, .p 1 0] [([.k (.int .u64 0), .k (.int .u64 0), .k (.int .u64 0), .k (.int .u64 0)], 23), ([.b 0, .b 1, .b 2, .b 3, .b 4, .b 5, .b 6, .b 7, .b 8, .b 9, .b 10, .b 11, .b 12, .b 13, .b 14, .b 15, .b 16, .b 17, .b 18, .b 19, .b 20, .b 21, .b 22, .b 23, .b 24, .b 25, .b 26, .b 27, .b 28, .b 29, .b 30, .b 31], 32)] 32 = some (([.w 66, .w 73, .w 80, .w 87], 23) :: ([([.b 0, .b 1, .b 2, .b 3, .b 4, .b 5, .b 6, .b 7, .b 8, .b 9, .b 10, .b 11, .b 12, .b 13, .b 14, .b 15, .b 16, .b 17, .b 18, .b 19, .b 20, .b 21, .b 22, .b 23, .b 24, .b 25, .b 26, .b 27, .b 28, .b 29, .b 30, .b 31], 32)] ++ []), rsFrom) := by kernel_rfl
set_option maxRecDepth 100000 in
theorem outsTo (v : Nat → Nat) (_ : ∀ i, v i < 18446744073709551616) (hR : ∀ r ∈ rsTo, r.holds v) :
    [v 5, v 8, v 11, v 14, v 17, v 20, v 23, v 25, v 27, v 30, v 33, v 36, v 39, v 42, v 45, v 47, v 49, v 52, v 55, v 58, v 61, v 64, v 67, v 69, v 71, v 74, v 77, v 80, v 83, v 86, v 89, v 91] = bytesAll [v 0, v 1, v 2, v 3] := by
  simp only [rsTo, List.forall_mem_cons, Sym.R.holds_shr, Sym.R.holds_low, Sym.A.val_var, Sym.nil_rel, and_true] at hR
  obtain ⟨r4, r5, r6, r7, r8, r9, r10, r11, r12, r13, r14, r15, r16, r17, r18, r19, r20, r21, r22, r23, r24, r25, r26, r27, r28, r29, r30, r31, r32, r33, r34, r35, r36, r37, r38, r39, r40, r41, r42, r43, r44, r45, r46, r47, r48, r49, r50, r51, r52, r53, r54, r55, r56, r57, r58, r59, r60, r61, r62, r63, r64, r65, r66, r67, r68, r69, r70, r71, r72, r73, r74, r75, r76, r77, r78, r79, r80, r81, r82, r83, r84, r85, r86, r87, r88, r89, r90, r91⟩ := hR
  have q6 : v 6 = v 0 / 2 ^ (8 * 1) := shr_1 r6
  have q9 : v 9 = v 0 / 2 ^ (8 * 2) := shr_k q6 r9
  have q12 : v 12 = v 0 / 2 ^ (8 * 3) := shr_k q9 r12
  have q15 : v 15 = v 0 / 2 ^ (8 * 4) := shr_k q12 r15
  have q18 : v 18 = v 0 / 2 ^ (8 * 5) := shr_k q15 r18
  have q21 : v 21 = v 0 / 2 ^ (8 * 6) := shr_k q18 r21
  have q24 : v 24 = v 0 / 2 ^ (8 * 7) := shr_k q21 r24
  have q28 : v 28 = v 1 / 2 ^ (8 * 1) := shr_1 r28
  have q31 : v 31 = v 1 / 2 ^ (8 * 2) := shr_k q28 r31
  have q34 : v 34 = v 1 / 2 ^ (8 * 3) := shr_k q31 r34
  have q37 : v 37 = v 1 / 2 ^ (8 * 4) := shr_k q34 r37
  have q40 : v 40 = v 1 / 2 ^ (8 * 5) := shr_k q37 r40
  have q43 : v 43 = v 1 / 2 ^ (8 * 6) := shr_k q40 r43
  have q46 : v 46 = v 1 / 2 ^ (8 * 7) := shr_k q43 r46
  have q50 : v 50 = v 2 / 2 ^ (8 * 1) := shr_1 r50
  have q53 : v 53 = v 2 / 2 ^ (8 * 2) := shr_k q50 r53
  have q56 : v 56 = v 2 / 2 ^ (8 * 3) := shr_k q53 r56
  have q59 : v 59 = v 2 / 2 ^ (8 * 4) := shr_k q56 r59
  have q62 : v 62 = v 2 / 2 ^ (8 * 5) := shr_k q59 r62
  have q65 : v 65 = v 2 / 2 ^ (8 * 6) := shr_k q62 r65
  have q68 : v 68 = v 2 / 2 ^ (8 * 7) := shr_k q65 r68
  have q72 : v 72 = v 3 / 2 ^ (8 * 1) := shr_1 r72
  have q75 : v 75 = v 3 / 2 ^ (8 * 2) := shr_k q72 r75
  have q78 : v 78 = v 3 / 2 ^ (8 * 3) := shr_k q75 r78
  have q81 : v 81 = v 3 / 2 ^ (8 * 4) := shr_k q78 r81
  have q84 : v 84 = v 3 / 2 ^ (8 * 5) := shr_k q81 r84
  have q87 : v 87 = v 3 / 2 ^ (8 * 6) := shr_k q84 r87
  have q90 : v 90 = v 3 / 2 ^ (8 * 7) := shr_k q87 r90
  exact cons2 (low_0 r4 r5) (cons2 (low_k q6 r7 r8) (cons2 (low_k q9 r10 r11) (cons2 (low_k q12 r13 r14) (cons2 (low_k q15 r16 r17) (cons2 (low_k q18 r19 r20) (cons2 (low_k q21 r22 r23) (cons2 (low_1 q24 r25) (cons2 (low_0 r26 r27) (cons2 (low_k q28 r29 r30) (cons2 (low_k q31 r32 r33) (cons2 (low_k q34 r35 r36) (cons2 (low_k q37 r38 r39) (cons2 (low_k q40 r41 r42) (cons2 (low_k q43 r44 r45) (cons2 (low_1 q46 r47) (cons2 (low_0 r48 r49) (cons2 (low_k q50 r51 r52) (cons2 (low_k q53 r54 r55) (cons2 (low_k q56 r57 r58) (cons2 (low_k q59 r60 r61) (cons2 (low_k q62 r63 r64) (cons2 (low_k q65 r66 r67) (cons2 (low_1 q68 r69) (cons2 (low_0 r70 r71) (cons2 (low_k q72 r73 r74) (cons2 (low_k q75 r76 r77) (cons2 (low_k q78 r79 r80) (cons2 (low_k q81 r82 r83) (cons2 (low_k q84 r85 r86) (cons2 (low_k q87 r88 r89) (cons2 (low_1 q90 r91) (rfl))))))))))))))))))))))))))))))))

set_option maxRecDepth 100000 in
theorem outsFrom (v : Nat → Nat) (_ : ∀ i, v i < 18446744073709551616) (hR : ∀ r ∈ rsFrom, r.holds v) (hl : ∀ i, i < 32 → v i < 256) :
    [v 66, v 73, v 80, v 87] = wordsB [v 0, v 1, v 2, v 3, v 4, v 5, v 6, v 7, v 8, v 9, v 10, v 11, v 12, v 13, v 14, v 15, v 16, v 17, v 18, v 19, v 20, v 21, v 22, v 23, v 24, v 25, v 26, v 27, v 28, v 29, v 30, v 31] := by
  simp only [rsFrom, List.forall_mem_cons, Sym.R.holds_shl, Sym.R.holds_sum, Sym.A.val_var, Sym.nil_rel, and_true] at hR
  obtain ⟨r32, r33, r34, r35, r36, r37, r38, r39, r40, r41, r42, r43, r44, r45, r46, r47, r48, r49, r50, r51, r52, r53, r54, r55, r56, r57, r58, r59, r60, r61, r62, r63, r64, r65, r66, r67, r68, r69, r70, r71, r72, r73, r74, r75, r76, r77, r78, r79, r80, r81, r82, r83, r84, r85, r86, r87⟩ := hR
  exact cons2 (join8 (hl 0 (by decide)) (hl 1 (by decide)) (hl 2 (by decide)) (hl 3 (by decide)) (hl 4 (by decide)) (hl 5 (by decide)) (hl 6 (by decide)) (hl 7 (by decide)) r59 r58 r57 r56 r55 r54 r53 r60 r61 r62 r63 r64 r65 r66) (cons2 (join8 (hl 8 (by decide)) (hl 9 (by decide)) (hl 10 (by decide)) (hl 11 (by decide)) (hl 12 (by decide)) (hl 13 (by decide)) (hl 14 (by decide)) (hl 15 (by decide)) r52 r51 r50 r49 r48 r47 r46 r67 r68 r69 r70 r71 r72 r73) (cons2 (join8 (hl 16 (by decide)) (hl 17 (by decide)) (hl 18 (by decide)) (hl 19 (by decide)) (hl 20 (by decide)) (hl 21 (by decide)) (hl 22 (by decide)) (hl 23 (by decide)) r45 r44 r43 r42 r41 r40 r39 r74 r75 r76 r77 r78 r79 r80) (cons2 (join8 (hl 24 (by decide)) (hl 25 (by decide)) (hl 26 (by decide)) (hl 27 (by decide)) (hl 28 (by decide)) (hl 29 (by decide)) (hl 30 (by decide)) (hl 31 (by decide)) r38 r37 r36 r35 r34 r33 r32 r81 r82 r83 r84 r85 r86 r87) (rfl))))

set_option maxRecDepth 100000 in
theorem leafToBytes (w : World) (gz gx : Nat) (xs : List Nat) (hla : xs.length = 4) (ha : Ws xs) (nd : [gz, gx].Nodup)
    (hz : w.heap[gz]? = some (.cells zeroBytes 32 (0, 0))) (hx : w.heap[gx]? = some (.cells (xs.map u64).toArray 23 (0, 0))) :
    Calls Try.prog 28 #[.pointer (some ⟨gz, 0, none⟩), .pointer (some ⟨gx, 0, none⟩)] w fun e w' =>
      e = .returned (.tuple #[]) ∧ Sym.Wrote gz (.cells ((bytesAll xs).map u8).toArray 32 (0, 0)) w w' := by
  obtain ⟨a0, a1, a2, a3, rfl⟩ := len_all hla
  obtain ⟨v, e, hv, hR⟩ := Sym.exists_numbers rsTo 4 0 (fun i => ([a0, a1, a2, a3]).getD i 0) (getD_lt ha) (fun i h => by simp at h) (fun i h => by simp at h) (by kernel_rfl)
  obtain rfl : v 0 = a0 := e 0 (by decide)
  obtain rfl : v 1 = a1 := e 1 (by decide)
  obtain rfl : v 2 = a2 := e 2 (by decide)
  obtain rfl : v 3 = a3 := e 3 (by decide)
  clear e
  have hlt : ∀ x ∈ [gz, gx], x < w.heap.size := by
    intro x hx'
    simp only [List.mem_cons, List.not_mem_nil, or_false] at hx'
    rcases hx' with rfl | rfl
    · exact size_of hz
    · exact size_of hx
  have key := Sym.call_leaf facts Try.func28 (by kernel_rfl) (of_decide_eq_true (by kernel_rfl)) nd hlt rfl runTo v hv hR hz (by
    intro i c t g hi hg
    match i, hi, hg with
    | 0, hi, hg => cases hi; cases hg; exact hx
    | i + 1, hi, hg => simp at hi)
  have ho := outsTo v hv hR
  refine Calls.mono key ?_
  rintro e w' ⟨he, hw⟩
  refine ⟨he, ?_⟩
  rw [← ho]
  exact hw

set_option maxRecDepth 100000 in
theorem leafFromBytes (w : World) (gz gx : Nat) (xs : List Nat) (hla : xs.length = 32) (ha : Ws xs) (hb : ∀ x ∈ xs, x < 256) (nd : [gz, gx].Nodup)
    (hz : w.heap[gz]? = some (.cells zeroCells 23 (0, 0))) (hx : w.heap[gx]? = some (.cells (xs.map u8).toArray 32 (0, 0))) :
    Calls Try.prog 30 #[.pointer (some ⟨gz, 0, none⟩), .pointer (some ⟨gx, 0, none⟩)] w fun e w' =>
      e = .returned (.tuple #[]) ∧ Sym.Wrote gz (.cells ((wordsB xs).map u64).toArray 23 (0, 0)) w w' := by
  obtain ⟨c0, c1, c2, c3, c4, c5, c6, c7, c8, c9, c10, c11, c12, c13, c14, c15, c16, c17, c18, c19, c20, c21, c22, c23, c24, c25, c26, c27, c28, c29, c30, c31, rfl⟩ := len_bytes hla
  obtain ⟨v, e, hv, hR⟩ := Sym.exists_numbers rsFrom 32 0 (fun i => ([c0, c1, c2, c3, c4, c5, c6, c7, c8, c9, c10, c11, c12, c13, c14, c15, c16, c17, c18, c19, c20, c21, c22, c23, c24, c25, c26, c27, c28, c29, c30, c31]).getD i 0) (getD_lt ha) (fun i h => by simp at h) (fun i h => by simp at h) (by kernel_rfl)
  obtain rfl : v 0 = c0 := e 0 (by decide)
  obtain rfl : v 1 = c1 := e 1 (by decide)
  obtain rfl : v 2 = c2 := e 2 (by decide)
  obtain rfl : v 3 = c3 := e 3 (by decide)
  obtain rfl : v 4 = c4 := e 4 (by decide)
  obtain rfl : v 5 = c5 := e 5 (by decide)
  obtain rfl : v 6 = c6 := e 6 (by decide)
  obtain rfl : v 7 = c7 := e 7 (by decide)
  obtain rfl : v 8 = c8 := e 8 (by decide)
  obtain rfl : v 9 = c9 := e 9 (by decide)
  obtain rfl : v 10 = c10 := e 10 (by decide)
  obtain rfl : v 11 = c11 := e 11 (by decide)
  obtain rfl : v 12 = c12 := e 12 (by decide)
  obtain rfl : v 13 = c13 := e 13 (by decide)
  obtain rfl : v 14 = c14 := e 14 (by decide)
  obtain rfl : v 15 = c15 := e 15 (by decide)
  obtain rfl : v 16 = c16 := e 16 (by decide)
  obtain rfl : v 17 = c17 := e 17 (by decide)
  obtain rfl : v 18 = c18 := e 18 (by decide)
  obtain rfl : v 19 = c19 := e 19 (by decide)
  obtain rfl : v 20 = c20 := e 20 (by decide)
  obtain rfl : v 21 = c21 := e 21 (by decide)
  obtain rfl : v 22 = c22 := e 22 (by decide)
  obtain rfl : v 23 = c23 := e 23 (by decide)
  obtain rfl : v 24 = c24 := e 24 (by decide)
  obtain rfl : v 25 = c25 := e 25 (by decide)
  obtain rfl : v 26 = c26 := e 26 (by decide)
  obtain rfl : v 27 = c27 := e 27 (by decide)
  obtain rfl : v 28 = c28 := e 28 (by decide)
  obtain rfl : v 29 = c29 := e 29 (by decide)
  obtain rfl : v 30 = c30 := e 30 (by decide)
  obtain rfl : v 31 = c31 := e 31 (by decide)
  clear e
  have hlt : ∀ x ∈ [gz, gx], x < w.heap.size := by
    intro x hx'
    simp only [List.mem_cons, List.not_mem_nil, or_false] at hx'
    rcases hx' with rfl | rfl
    · exact size_of hz
    · exact size_of hx
  have key := Sym.call_leaf facts Try.func30 (by kernel_rfl) (of_decide_eq_true (by kernel_rfl)) nd hlt rfl runFrom v hv hR hz (by
    intro i c t g hi hg
    match i, hi, hg with
    | 0, hi, hg => cases hi; cases hg; exact hx
    | i + 1, hi, hg => simp at hi)
  have ho := outsFrom v hv hR (fun i hi => hb (v i) (by rw [show [v 0, v 1, v 2, v 3, v 4, v 5, v 6, v 7, v 8, v 9, v 10, v 11, v 12, v 13, v 14, v 15, v 16, v 17, v 18, v 19, v 20, v 21, v 22, v 23, v 24, v 25, v 26, v 27, v 28, v 29, v 30, v 31] = (List.range 32).map v from rfl]; exact List.mem_map.2 ⟨i, List.mem_range.2 hi, rfl⟩))
  refine Calls.mono key ?_
  rintro e w' ⟨he, hw⟩
  refine ⟨he, ?_⟩
  rw [← ho]
  exact hw

end Go.Proofs.Ytomnhlhgikplaaa
