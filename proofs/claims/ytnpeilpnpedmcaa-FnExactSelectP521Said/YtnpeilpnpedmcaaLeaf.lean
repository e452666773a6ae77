/-
  What the straight-line functions of this field compute, through pointers: sums and differences modulo the prime, a choice.
-/
import Derived.Test.YtnpeilpnpedmcaaBase
import Derived.Test.YtnpeilpnpedmcaaFacts
namespace Go.Proofs.Ytnpeilpnpedmcaa
open Go.RowKit Num

def u64 (n : Nat) : Value := .int .u64 (n : Int)
def u8 (n : Nat) : Value := .int .u8 (n : Int)
def prime : Nat := 6864797660130609714981900799081393217269435300143305409394463459185543183397656052122559640661454554977296311391480858037121987999716643812574028291115057151
def pwords : List Nat := [18446744073709551615, 18446744073709551615, 18446744073709551615, 18446744073709551615, 18446744073709551615, 18446744073709551615, 18446744073709551615, 18446744073709551615, 511]
theorem pwords_val : val pwords = prime := by decide +kernel
theorem pwords_ws : Ws pwords := by unfold Ws pwords; simp
theorem len_all {l : List Nat} (h : l.length = 9) : ∃ a0 a1 a2 a3 a4 a5 a6 a7 a8 : Nat, l = [a0, a1, a2, a3, a4, a5, a6, a7, a8] := by
  match l, h with
  | [a0, a1, a2, a3, a4, a5, a6, a7, a8], _ => exact ⟨_, _, _, _, _, _, _, _, _, rfl⟩
def rsAdd : List Sym.R := [.add 18 (.var 0) (.var 9) (.lit 0), .add 20 (.var 1) (.var 10) (.var 19), .add 22 (.var 2) (.var 11) (.var 21), .add 24 (.var 3) (.var 12) (.var 23), .add 26 (.var 4) (.var 13) (.var 25), .add 28 (.var 5) (.var 14) (.var 27), .add 30 (.var 6) (.var 15) (.var 29), .add 32 (.var 7) (.var 16) (.var 31), .add 34 (.var 8) (.var 17) (.var 33), .sub 36 (.var 18) (.lit 18446744073709551615) (.lit 0), .sub 38 (.var 20) (.lit 18446744073709551615) (.var 37), .sub 40 (.var 22) (.lit 18446744073709551615) (.var 39), .sub 42 (.var 24) (.lit 18446744073709551615) (.var 41), .sub 44 (.var 26) (.lit 18446744073709551615) (.var 43), .sub 46 (.var 28) (.lit 18446744073709551615) (.var 45), .sub 48 (.var 30) (.lit 18446744073709551615) (.var 47), .sub 50 (.var 32) (.lit 18446744073709551615) (.var 49), .sub 52 (.var 34) (.lit 511) (.var 51), .sub 54 (.var 35) (.lit 0) (.var 53), .cmov 56 (.var 55) (.var 36) (.var 18), .cmov 57 (.var 55) (.var 38) (.var 20), .cmov 58 (.var 55) (.var 40) (.var 22), .cmov 59 (.var 55) (.var 42) (.var 24), .cmov 60 (.var 55) (.var 44) (.var 26), .cmov 61 (.var 55) (.var 46) (.var 28), .cmov 62 (.var 55) (.var 48) (.var 30), .cmov 63 (.var 55) (.var 50) (.var 32), .cmov 64 (.var 55) (.var 52) (.var 34)]
theorem runAdd : Sym.run cx Try.f20 [.p 0 0, .p 1 0, .p 2 0] [([.k (.int .u64 0), .k (.int .u64 0), .k (.int .u64 0), .k (.int .u64 0), .k (.int .u64 0), .k (.int .u64 0), .k (.int .u64 0), .k (.int .u64 0), .k (.int .u64 0)], 37), ([.w 0, .w 1, .w 2, .w 3, .w 4, .w 5, .w 6, .w 7, .w 8], 37), ([.w 9, .w 10, .w 11, .w 12, .w 13, .w 14, .w 15, .w 16, .w 17], 37)] 18 = some (([.w 56, .w 57, .w 58, .w 59, .w 60, .w 61, .w 62, .w 63, .w 64], 37) :: ([([.w 0, .w 1, .w 2, .w 3, .w 4, .w 5, .w 6, .w 7, .w 8], 37), ([.w 9, .w 10, .w 11, .w 12, .w 13, .w 14, .w 15, .w 16, .w 17], 37)] ++ [([.w 56], 22), ([.w 57], 22), ([.w 58], 22), ([.w 59], 22), ([.w 60], 22), ([.w 61], 22), ([.w 62], 22), ([.w 63], 22), ([.w 64], 22)]), rsAdd) := by kernel_rfl
def rsSub : List Sym.R := [.sub 18 (.var 0) (.var 9) (.lit 0), .sub 20 (.var 1) (.var 10) (.var 19), .sub 22 (.var 2) (.var 11) (.var 21), .sub 24 (.var 3) (.var 12) (.var 23), .sub 26 (.var 4) (.var 13) (.var 25), .sub 28 (.var 5) (.var 14) (.var 27), .sub 30 (.var 6) (.var 15) (.var 29), .sub 32 (.var 7) (.var 16) (.var 31), .sub 34 (.var 8) (.var 17) (.var 33), .cmov 36 (.var 35) (.lit 0) (.lit 18446744073709551615), .add 37 (.var 18) (.var 36) (.lit 0), .add 39 (.var 20) (.var 36) (.var 38), .add 41 (.var 22) (.var 36) (.var 40), .add 43 (.var 24) (.var 36) (.var 42), .add 45 (.var 26) (.var 36) (.var 44), .add 47 (.var 28) (.var 36) (.var 46), .add 49 (.var 30) (.var 36) (.var 48), .add 51 (.var 32) (.var 36) (.var 50), .and 53 (.var 36) (.lit 511), .add 54 (.var 34) (.var 53) (.var 52)]
theorem runSub : Sym.run cx Try.f21 [.p 0 0, .p 1 0, .p 2 0] [([.k (.int .u64 0), .k (.int .u64 0), .k (.int .u64 0), .k (.int .u64 0), .k (.int .u64 0), .k (.int .u64 0), .k (.int .u64 0), .k (.int .u64 0), .k (.int .u64 0)], 37), ([.w 0, .w 1, .w 2, .w 3, .w 4, .w 5, .w 6, .w 7, .w 8], 37), ([.w 9, .w 10, .w 11, .w 12, .w 13, .w 14, .w 15, .w 16, .w 17], 37)] 18 = some (([.w 37, .w 39, .w 41, .w 43, .w 45, .w 47, .w 49, .w 51, .w 54], 37) :: ([([.w 0, .w 1, .w 2, .w 3, .w 4, .w 5, .w 6, .w 7, .w 8], 37), ([.w 9, .w 10, .w 11, .w 12, .w 13, .w 14, .w 15, .w 16, .w 17], 37)] ++ [([.w 36], 22)]), rsSub) := by kernel_rfl
def rsSelect : List Sym.R := [.cmov 19 (.var 18) (.var 0) (.var 9), .cmov 20 (.var 18) (.var 1) (.var 10), .cmov 21 (.var 18) (.var 2) (.var 11), .cmov 22 (.var 18) (.var 3) (.var 12), .cmov 23 (.var 18) (.var 4) (.var 13), .cmov 24 (.var 18) (.var 5) (.var 14), .cmov 25 (.var 18) (.var 6) (.var 15), .cmov 26 (.var 18) (.var 7) (.var 16), .cmov 27 (.var 18) (.var 8) (.var 17)]
theorem runSelect : Sym.run cx Try.f19 [.p 0 0, .w 18, .p 1 0, .p 2 0] [([.k (.int .u64 0), .k (.int .u64 0), .k (.int .u64 0), .k (.int .u64 0), .k (.int .u64 0), .k (.int .u64 0), .k (.int .u64 0), .k (.int .u64 0), .k (.int .u64 0)], 23), ([.w 0, .w 1, .w 2, .w 3, .w 4, .w 5, .w 6, .w 7, .w 8], 23), ([.w 9, .w 10, .w 11, .w 12, .w 13, .w 14, .w 15, .w 16, .w 17], 23)] 19 = some (([.w 19, .w 20, .w 21, .w 22, .w 23, .w 24, .w 25, .w 26, .w 27], 23) :: ([([.w 0, .w 1, .w 2, .w 3, .w 4, .w 5, .w 6, .w 7, .w 8], 23), ([.w 9, .w 10, .w 11, .w 12, .w 13, .w 14, .w 15, .w 16, .w 17], 23)] ++ [([.w 19], 22), ([.w 20], 22), ([.w 21], 22), ([.w 22], 22), ([.w 23], 22), ([.w 24], 22), ([.w 25], 22), ([.w 26], 22), ([.w 27], 22)]), rsSelect) := by kernel_rfl
theorem getD_lt {l : List Nat} (h : Ws l) (i : Nat) : l.getD i 0 < 18446744073709551616 := by
  rw [List.getD_eq_getElem?_getD]
  by_cases hi : i < l.length
  · rw [List.getElem?_eq_getElem hi]; exact h _ (List.getElem_mem hi)
  · rw [List.getElem?_eq_none (by omega)]; decide
theorem ws_append {l l' : List Nat} (h : Ws l) (h' : Ws l') : Ws (l ++ l') := fun x hx => by
  rcases List.mem_append.1 hx with h1 | h1
  · exact h x h1
  · exact h' x h1
theorem size_of {w : World} {g : Nat} {o : Obj} (h : w.heap[g]? = some o) : g < w.heap.size := by
  rcases Nat.lt_or_ge g w.heap.size with h1 | h1
  · exact h1
  · rw [Array.getElem?_eq_none h1] at h; cases h
def zeroCells : Array Value := #[.int .u64 0, .int .u64 0, .int .u64 0, .int .u64 0, .int .u64 0, .int .u64 0, .int .u64 0, .int .u64 0, .int .u64 0]

theorem bit_at {l : List Nat} {c : Nat} (k : Nat) (hc : c ≤ 1) (hl : l.length = k := by rfl) : ∀ i, (2 ^ k).testBit i = true → (l ++ [c]).getD i 0 ≤ 1 := by
  intro i h
  rw [Nat.testBit_two_pow] at h
  simp only [decide_eq_true_eq] at h
  subst h; subst hl
  simpa [List.getD_eq_getElem?_getD] using hc
theorem bit_lt (k : Nat) : ∀ i, (2 ^ k).testBit i = true → i < k + 1 := by
  intro i h
  rw [Nat.testBit_two_pow] at h
  simp only [decide_eq_true_eq] at h
  omega
set_option maxRecDepth 100000 in
theorem outsAdd (v : Nat → Nat) (_ : ∀ i, v i < 18446744073709551616) (hR : ∀ r ∈ rsAdd, r.holds v) (ha : Ws [v 0, v 1, v 2, v 3, v 4, v 5, v 6, v 7, v 8]) (hb : Ws [v 9, v 10, v 11, v 12, v 13, v 14, v 15, v 16, v 17]) (lta : val [v 0, v 1, v 2, v 3, v 4, v 5, v 6, v 7, v 8] < prime) (ltb : val [v 9, v 10, v 11, v 12, v 13, v 14, v 15, v 16, v 17] < prime) :
    [v 56, v 57, v 58, v 59, v 60, v 61, v 62, v 63, v 64] = wordsOf 9 ((val [v 0, v 1, v 2, v 3, v 4, v 5, v 6, v 7, v 8] + val [v 9, v 10, v 11, v 12, v 13, v 14, v 15, v 16, v 17]) % prime) := by
  simp only [rsAdd, List.forall_mem_cons, Sym.R.holds_add, Sym.R.holds_sub, Sym.R.holds_cmov, Sym.A.val_var, Sym.A.val_lit, Sym.nil_rel, and_true, Nat.reduceAdd] at hR
  obtain ⟨⟨_, r18, r19⟩, ⟨_, r20, r21⟩, ⟨_, r22, r23⟩, ⟨_, r24, r25⟩, ⟨_, r26, r27⟩, ⟨_, r28, r29⟩, ⟨_, r30, r31⟩, ⟨_, r32, r33⟩, ⟨_, r34, r35⟩, ⟨_, r36, r37⟩, ⟨_, r38, r39⟩, ⟨_, r40, r41⟩, ⟨_, r42, r43⟩, ⟨_, r44, r45⟩, ⟨_, r46, r47⟩, ⟨_, r48, r49⟩, ⟨_, r50, r51⟩, ⟨_, r52, r53⟩, ⟨_, r54, r55⟩, ⟨_, r56⟩, ⟨_, r57⟩, ⟨_, r58⟩, ⟨_, r59⟩, ⟨_, r60⟩, ⟨_, r61⟩, ⟨_, r62⟩, ⟨_, r63⟩, ⟨_, r64⟩⟩ := hR
  have h1 : AddC [v 0, v 1, v 2, v 3, v 4, v 5, v 6, v 7, v 8] [v 9, v 10, v 11, v 12, v 13, v 14, v 15, v 16, v 17] 0 [v 18, v 20, v 22, v 24, v 26, v 28, v 30, v 32, v 34] (v 35) := Sym.AddC.cons r18 r19 (Sym.AddC.cons r20 r21 (Sym.AddC.cons r22 r23 (Sym.AddC.cons r24 r25 (Sym.AddC.cons r26 r27 (Sym.AddC.cons r28 r29 (Sym.AddC.cons r30 r31 (Sym.AddC.cons r32 r33 (Sym.AddC.cons r34 r35 (Sym.AddC.nil _)))))))))
  have h2 : SubC [v 18, v 20, v 22, v 24, v 26, v 28, v 30, v 32, v 34] pwords 0 [v 36, v 38, v 40, v 42, v 44, v 46, v 48, v 50, v 52] (v 53) := Sym.SubC.cons r36 r37 (Sym.SubC.cons r38 r39 (Sym.SubC.cons r40 r41 (Sym.SubC.cons r42 r43 (Sym.SubC.cons r44 r45 (Sym.SubC.cons r46 r47 (Sym.SubC.cons r48 r49 (Sym.SubC.cons r50 r51 (Sym.SubC.cons r52 r53 (Sym.SubC.nil _)))))))))
  have h3 := add_mod ha hb pwords_ws rfl rfl pwords_val lta ltb h1 h2
  refine Eq.trans ?_ h3
  rw [Nat.zero_add] at r55
  by_cases hc : v 35 < v 53
  · rw [Sym.bor, if_pos hc] at r55
    rw [if_pos hc, r56, r57, r58, r59, r60, r61, r62, r63, r64, r55]
    rfl
  · rw [Sym.bor, if_neg hc] at r55
    rw [if_neg hc, r56, r57, r58, r59, r60, r61, r62, r63, r64, r55]
    rfl

set_option maxRecDepth 100000 in
theorem outsSub (v : Nat → Nat) (hv : ∀ i, v i < 18446744073709551616) (hR : ∀ r ∈ rsSub, r.holds v) (ha : Ws [v 0, v 1, v 2, v 3, v 4, v 5, v 6, v 7, v 8]) (hb : Ws [v 9, v 10, v 11, v 12, v 13, v 14, v 15, v 16, v 17]) (lta : val [v 0, v 1, v 2, v 3, v 4, v 5, v 6, v 7, v 8] < prime) (ltb : val [v 9, v 10, v 11, v 12, v 13, v 14, v 15, v 16, v 17] < prime) :
    [v 37, v 39, v 41, v 43, v 45, v 47, v 49, v 51, v 54] = wordsOf 9 ((val [v 0, v 1, v 2, v 3, v 4, v 5, v 6, v 7, v 8] + (prime - val [v 9, v 10, v 11, v 12, v 13, v 14, v 15, v 16, v 17])) % prime) := by
  simp only [rsSub, List.forall_mem_cons, Sym.R.holds_add, Sym.R.holds_sub, Sym.R.holds_cmov, Sym.R.holds_and, Sym.A.val_var, Sym.A.val_lit, Sym.nil_rel, and_true, Nat.reduceAdd] at hR
  obtain ⟨⟨_, r18, r19⟩, ⟨_, r20, r21⟩, ⟨_, r22, r23⟩, ⟨_, r24, r25⟩, ⟨_, r26, r27⟩, ⟨_, r28, r29⟩, ⟨_, r30, r31⟩, ⟨_, r32, r33⟩, ⟨_, r34, r35⟩, ⟨_, r36⟩, ⟨_, r37, r38⟩, ⟨_, r39, r40⟩, ⟨_, r41, r42⟩, ⟨_, r43, r44⟩, ⟨_, r45, r46⟩, ⟨_, r47, r48⟩, ⟨_, r49, r50⟩, ⟨_, r51, r52⟩, r53, ⟨_, r54, r55⟩⟩ := hR
  have h1 : SubC [v 0, v 1, v 2, v 3, v 4, v 5, v 6, v 7, v 8] [v 9, v 10, v 11, v 12, v 13, v 14, v 15, v 16, v 17] 0 [v 18, v 20, v 22, v 24, v 26, v 28, v 30, v 32, v 34] (v 35) := Sym.SubC.cons r18 r19 (Sym.SubC.cons r20 r21 (Sym.SubC.cons r22 r23 (Sym.SubC.cons r24 r25 (Sym.SubC.cons r26 r27 (Sym.SubC.cons r28 r29 (Sym.SubC.cons r30 r31 (Sym.SubC.cons r32 r33 (Sym.SubC.cons r34 r35 (Sym.SubC.nil _)))))))))
  have h2 : AddC [v 18, v 20, v 22, v 24, v 26, v 28, v 30, v 32, v 34] [v 36, v 36, v 36, v 36, v 36, v 36, v 36, v 36, v 53] 0 [v 37, v 39, v 41, v 43, v 45, v 47, v 49, v 51, v 54] (v 55) := Sym.AddC.cons r37 r38 (Sym.AddC.cons r39 r40 (Sym.AddC.cons r41 r42 (Sym.AddC.cons r43 r44 (Sym.AddC.cons r45 r46 (Sym.AddC.cons r47 r48 (Sym.AddC.cons r49 r50 (Sym.AddC.cons r51 r52 (Sym.AddC.cons r54 r55 (Sym.AddC.nil _)))))))))
  have hm : Ws [v 36, v 36, v 36, v 36, v 36, v 36, v 36, v 36, v 53] := (Ws.cons (hv _) (Ws.cons (hv _) (Ws.cons (hv _) (Ws.cons (hv _) (Ws.cons (hv _) (Ws.cons (hv _) (Ws.cons (hv _) (Ws.cons (hv _) (Ws.cons (hv _) Ws.nil)))))))))
  have hmv : val [v 36, v 36, v 36, v 36, v 36, v 36, v 36, v 36, v 53] = if v 35 = 0 then 0 else prime := by
    by_cases hb0 : v 35 = 0
    · have hm0 : v 36 = 0 := by rw [r36, Sym.sel, if_pos hb0]
      have z53 : v 53 = 0 := by rw [r53, hm0]; exact Nat.zero_and _
      rw [if_pos hb0, z53, hm0]
      decide +kernel
    · have hm0 : v 36 = 18446744073709551615 := by rw [r36, Sym.sel, if_neg hb0]
      have z53 : v 53 = 511 := by rw [r53, hm0]; decide +kernel
      rw [if_neg hb0, z53, hm0]
      decide +kernel
  exact sub_mod ha hb pwords_ws rfl rfl pwords_val lta ltb h1 hm rfl hmv h2

set_option maxRecDepth 100000 in
theorem outsSelect (v : Nat → Nat) (_ : ∀ i, v i < 18446744073709551616) (hR : ∀ r ∈ rsSelect, r.holds v) :
    [v 19, v 20, v 21, v 22, v 23, v 24, v 25, v 26, v 27] = if v 18 = 0 then [v 0, v 1, v 2, v 3, v 4, v 5, v 6, v 7, v 8] else [v 9, v 10, v 11, v 12, v 13, v 14, v 15, v 16, v 17] := by
  simp only [rsSelect, List.forall_mem_cons, Sym.R.holds_cmov, Sym.A.val_var, Sym.nil_rel, and_true] at hR
  obtain ⟨⟨_, r19⟩, ⟨_, r20⟩, ⟨_, r21⟩, ⟨_, r22⟩, ⟨_, r23⟩, ⟨_, r24⟩, ⟨_, r25⟩, ⟨_, r26⟩, ⟨_, r27⟩⟩ := hR
  rw [r19, r20, r21, r22, r23, r24, r25, r26, r27]
  by_cases h0 : v 18 = 0
  · simp only [Sym.sel, h0, if_true]
  · simp only [Sym.sel, h0, if_false]

set_option maxRecDepth 100000 in
theorem leafAdd (w : World) (gz gx gy : Nat) (xs ys : List Nat) (hla : xs.length = 9) (hlb : ys.length = 9) (ha : Ws xs) (hb : Ws ys) (lta : val xs < prime) (ltb : val ys < prime) (nd : [gz, gx, gy].Nodup)
    (hz : w.heap[gz]? = some (.cells zeroCells 37 (0, 0))) (hx : w.heap[gx]? = some (.cells (xs.map u64).toArray 37 (0, 0))) (hy : w.heap[gy]? = some (.cells (ys.map u64).toArray 37 (0, 0))) :
    Calls Try.prog 20 #[.pointer (some ⟨gz, 0, none⟩), .pointer (some ⟨gx, 0, none⟩), .pointer (some ⟨gy, 0, none⟩)] w fun e w' =>
      e = .returned (.tuple #[]) ∧ Sym.Wrote gz (.cells ((wordsOf 9 ((val xs + val ys) % prime)).map u64).toArray 37 (0, 0)) w w' := by
  obtain ⟨a0, a1, a2, a3, a4, a5, a6, a7, a8, rfl⟩ := len_all hla
  obtain ⟨b0, b1, b2, b3, b4, b5, b6, b7, b8, rfl⟩ := len_all hlb
  have hws := ws_append ha hb
  obtain ⟨v, e, hv, hR⟩ := Sym.exists_numbers rsAdd 18 0 (fun i => ([a0, a1, a2, a3, a4, a5, a6, a7, a8, b0, b1, b2, b3, b4, b5, b6, b7, b8]).getD i 0) (getD_lt hws) (fun i h => by simp at h) (fun i h => by simp at h) (by kernel_rfl)
  obtain rfl : v 0 = a0 := e 0 (by decide)
  obtain rfl : v 1 = a1 := e 1 (by decide)
  obtain rfl : v 2 = a2 := e 2 (by decide)
  obtain rfl : v 3 = a3 := e 3 (by decide)
  obtain rfl : v 4 = a4 := e 4 (by decide)
  obtain rfl : v 5 = a5 := e 5 (by decide)
  obtain rfl : v 6 = a6 := e 6 (by decide)
  obtain rfl : v 7 = a7 := e 7 (by decide)
  obtain rfl : v 8 = a8 := e 8 (by decide)
  obtain rfl : v 9 = b0 := e 9 (by decide)
  obtain rfl : v 10 = b1 := e 10 (by decide)
  obtain rfl : v 11 = b2 := e 11 (by decide)
  obtain rfl : v 12 = b3 := e 12 (by decide)
  obtain rfl : v 13 = b4 := e 13 (by decide)
  obtain rfl : v 14 = b5 := e 14 (by decide)
  obtain rfl : v 15 = b6 := e 15 (by decide)
  obtain rfl : v 16 = b7 := e 16 (by decide)
  obtain rfl : v 17 = b8 := e 17 (by decide)
  clear e hws
  have hlt : ∀ x ∈ [gz, gx, gy], x < w.heap.size := by
    intro x hx'
    simp only [List.mem_cons, List.not_mem_nil, or_false] at hx'
    rcases hx' with rfl | rfl | rfl
    · exact size_of hz
    · exact size_of hx
    · exact size_of hy
  have key := Sym.call_leaf facts Try.func20 (by kernel_rfl) (of_decide_eq_true (by kernel_rfl)) nd hlt rfl runAdd v hv hR hz (by
    intro i c t g hi hg
    match i, hi, hg with
    | 0, hi, hg => cases hi; cases hg; exact hx
    | 1, hi, hg => cases hi; cases hg; exact hy
    | i + 2, hi, hg => simp at hi)
  have ho := outsAdd v hv hR ha hb lta ltb
  refine Calls.mono key ?_
  rintro e w' ⟨he, hw⟩
  refine ⟨he, ?_⟩
  rw [← ho]
  exact hw

set_option maxRecDepth 100000 in
theorem leafSub (w : World) (gz gx gy : Nat) (xs ys : List Nat) (hla : xs.length = 9) (hlb : ys.length = 9) (ha : Ws xs) (hb : Ws ys) (lta : val xs < prime) (ltb : val ys < prime) (nd : [gz, gx, gy].Nodup)
    (hz : w.heap[gz]? = some (.cells zeroCells 37 (0, 0))) (hx : w.heap[gx]? = some (.cells (xs.map u64).toArray 37 (0, 0))) (hy : w.heap[gy]? = some (.cells (ys.map u64).toArray 37 (0, 0))) :
    Calls Try.prog 21 #[.pointer (some ⟨gz, 0, none⟩), .pointer (some ⟨gx, 0, none⟩), .pointer (some ⟨gy, 0, none⟩)] w fun e w' =>
      e = .returned (.tuple #[]) ∧ Sym.Wrote gz (.cells ((wordsOf 9 ((val xs + (prime - val ys)) % prime)).map u64).toArray 37 (0, 0)) w w' := by
  obtain ⟨a0, a1, a2, a3, a4, a5, a6, a7, a8, rfl⟩ := len_all hla
  obtain ⟨b0, b1, b2, b3, b4, b5, b6, b7, b8, rfl⟩ := len_all hlb
  have hws := ws_append ha hb
  obtain ⟨v, e, hv, hR⟩ := Sym.exists_numbers rsSub 18 0 (fun i => ([a0, a1, a2, a3, a4, a5, a6, a7, a8, b0, b1, b2, b3, b4, b5, b6, b7, b8]).getD i 0) (getD_lt hws) (fun i h => by simp at h) (fun i h => by simp at h) (by kernel_rfl)
  obtain rfl : v 0 = a0 := e 0 (by decide)
  obtain rfl : v 1 = a1 := e 1 (by decide)
  obtain rfl : v 2 = a2 := e 2 (by decide)
  obtain rfl : v 3 = a3 := e 3 (by decide)
  obtain rfl : v 4 = a4 := e 4 (by decide)
  obtain rfl : v 5 = a5 := e 5 (by decide)
  obtain rfl : v 6 = a6 := e 6 (by decide)
  obtain rfl : v 7 = a7 := e 7 (by decide)
  obtain rfl : v 8 = a8 := e 8 (by decide)
  obtain rfl : v 9 = b0 := e 9 (by decide)
  obtain rfl : v 10 = b1 := e 10 (by decide)
  obtain rfl : v 11 = b2 := e 11 (by decide)
  obtain rfl : v 12 = b3 := e 12 (by decide)
  obtain rfl : v 13 = b4 := e 13 (by decide)
  obtain rfl : v 14 = b5 := e 14 (by decide)
  obtain rfl : v 15 = b6 := e 15 (by decide)
  obtain rfl : v 16 = b7 := e 16 (by decide)
  obtain rfl : v 17 = b8 := e 17 (by decide)
  clear e hws
  have hlt : ∀ x ∈ [gz, gx, gy], x < w.heap.size := by
    intro x hx'
    simp only [List.mem_cons, List.not_mem_nil, or_false] at hx'
    rcases hx' with rfl | rfl | rfl
    · exact size_of hz
    · exact size_of hx
    · exact size_of hy
  have key := Sym.call_leaf facts Try.func21 (by kernel_rfl) (of_decide_eq_true (by kernel_rfl)) nd hlt rfl runSub v hv hR hz (by
    intro i c t g hi hg
    match i, hi, hg with
    | 0, hi, hg => cases hi; cases hg; exact hx
    | 1, hi, hg => cases hi; cases hg; exact hy
    | i + 2, hi, hg => simp at hi)
  have ho := outsSub v hv hR ha hb lta ltb
  refine Calls.mono key ?_
  rintro e w' ⟨he, hw⟩
  refine ⟨he, ?_⟩
  rw [← ho]
  exact hw

set_option maxRecDepth 100000 in
theorem leafSelect (w : World) (gz gx gy : Nat) (xs ys : List Nat) (hla : xs.length = 9) (hlb : ys.length = 9) (ha : Ws xs) (hb : Ws ys) (cond : Nat) (hc : cond ≤ 1) (nd : [gz, gx, gy].Nodup)
    (hz : w.heap[gz]? = some (.cells zeroCells 23 (0, 0))) (hx : w.heap[gx]? = some (.cells (xs.map u64).toArray 23 (0, 0))) (hy : w.heap[gy]? = some (.cells (ys.map u64).toArray 23 (0, 0))) :
    Calls Try.prog 19 #[.pointer (some ⟨gz, 0, none⟩), .int .u64 cond, .pointer (some ⟨gx, 0, none⟩), .pointer (some ⟨gy, 0, none⟩)] w fun e w' =>
      e = .returned (.tuple #[]) ∧ Sym.Wrote gz (.cells ((if cond = 0 then xs else ys).map u64).toArray 23 (0, 0)) w w' := by
  obtain ⟨a0, a1, a2, a3, a4, a5, a6, a7, a8, rfl⟩ := len_all hla
  obtain ⟨b0, b1, b2, b3, b4, b5, b6, b7, b8, rfl⟩ := len_all hlb
  have hws := ws_append ha hb
  replace hws := ws_append hws (Ws.cons (x := cond) (by omega) Ws.nil)
  obtain ⟨v, e, hv, hR⟩ := Sym.exists_numbers rsSelect 19 262144 (fun i => ([a0, a1, a2, a3, a4, a5, a6, a7, a8, b0, b1, b2, b3, b4, b5, b6, b7, b8, cond]).getD i 0) (getD_lt hws) (bit_at (l := [a0, a1, a2, a3, a4, a5, a6, a7, a8, b0, b1, b2, b3, b4, b5, b6, b7, b8]) 18 hc) (bit_lt 18) (by kernel_rfl)
  obtain rfl : v 0 = a0 := e 0 (by decide)
  obtain rfl : v 1 = a1 := e 1 (by decide)
  obtain rfl : v 2 = a2 := e 2 (by decide)
  obtain rfl : v 3 = a3 := e 3 (by decide)
  obtain rfl : v 4 = a4 := e 4 (by decide)
  obtain rfl : v 5 = a5 := e 5 (by decide)
  obtain rfl : v 6 = a6 := e 6 (by decide)
  obtain rfl : v 7 = a7 := e 7 (by decide)
  obtain rfl : v 8 = a8 := e 8 (by decide)
  obtain rfl : v 9 = b0 := e 9 (by decide)
  obtain rfl : v 10 = b1 := e 10 (by decide)
  obtain rfl : v 11 = b2 := e 11 (by decide)
  obtain rfl : v 12 = b3 := e 12 (by decide)
  obtain rfl : v 13 = b4 := e 13 (by decide)
  obtain rfl : v 14 = b5 := e 14 (by decide)
  obtain rfl : v 15 = b6 := e 15 (by decide)
  obtain rfl : v 16 = b7 := e 16 (by decide)
  obtain rfl : v 17 = b8 := e 17 (by decide)
  obtain rfl : v 18 = cond := e 18 (by decide)
  clear e hws
  have hlt : ∀ x ∈ [gz, gx, gy], x < w.heap.size := by
    intro x hx'
    simp only [List.mem_cons, List.not_mem_nil, or_false] at hx'
    rcases hx' with rfl | rfl | rfl
    · exact size_of hz
    · exact size_of hx
    · exact size_of hy
  have key := Sym.call_leaf facts Try.func19 (by kernel_rfl) (of_decide_eq_true (by kernel_rfl)) nd hlt rfl runSelect v hv hR hz (by
    intro i c t g hi hg
    match i, hi, hg with
    | 0, hi, hg => cases hi; cases hg; exact hx
    | 1, hi, hg => cases hi; cases hg; exact hy
    | i + 2, hi, hg => simp at hi)
  have ho := outsSelect v hv hR
  refine Calls.mono key ?_
  rintro e w' ⟨he, hw⟩
  refine ⟨he, ?_⟩
  rw [← ho]
  exact hw

end Go.Proofs.Ytnpeilpnpedmcaa
