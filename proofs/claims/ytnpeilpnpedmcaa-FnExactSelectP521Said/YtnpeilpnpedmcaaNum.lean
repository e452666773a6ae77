/-
  Plain numbers of words: their value, the words of a value, chains of sums and differences with carries. No program in sight.
-/
namespace Go.Proofs.Ytnpeilpnpedmcaa.Num

def val : List Nat → Nat
  | [] => 0
  | x :: l => x + 18446744073709551616 * val l

def Ws (l : List Nat) : Prop := ∀ x ∈ l, x < 18446744073709551616

def wordsOf : Nat → Nat → List Nat
  | 0, _ => []
  | n + 1, v => v % 18446744073709551616 :: wordsOf n (v / 18446744073709551616)

theorem Ws.head {x : Nat} {l : List Nat} (h : Ws (x :: l)) : x < 18446744073709551616 := h x List.mem_cons_self
theorem Ws.tail {x : Nat} {l : List Nat} (h : Ws (x :: l)) : Ws l := fun y hy => h y (List.mem_cons_of_mem _ hy)
theorem Ws.nil : Ws [] := fun y hy => by cases hy
theorem Ws.cons {x : Nat} {l : List Nat} (h : x < 18446744073709551616) (hl : Ws l) : Ws (x :: l) := fun y hy => by
  rcases List.mem_cons.1 hy with rfl | hy
  · exact h
  · exact hl y hy

theorem length_wordsOf : ∀ n v, (wordsOf n v).length = n
  | 0, _ => rfl
  | n + 1, v => by simp [wordsOf, length_wordsOf n]
theorem ws_wordsOf : ∀ n v, Ws (wordsOf n v)
  | 0, _ => Ws.nil
  | n + 1, v => Ws.cons (Nat.mod_lt _ (by decide)) (ws_wordsOf n _)
theorem wordsOf_val : ∀ l, Ws l → wordsOf l.length (val l) = l
  | [], _ => rfl
  | x :: l, h => by
    have hx := h.head
    have e1 : (x + 18446744073709551616 * val l) % 18446744073709551616 = x := by omega
    have e2 : (x + 18446744073709551616 * val l) / 18446744073709551616 = val l := by omega
    simp only [List.length_cons, wordsOf, val, e1, e2, wordsOf_val l h.tail]
theorem wordsOf_of {l : List Nat} {n v : Nat} (hw : Ws l) (hl : l.length = n) (hv : val l = v) : wordsOf n v = l := by
  subst hl; subst hv; exact wordsOf_val l hw
theorem val_lt : ∀ l, Ws l → val l < 18446744073709551616 ^ l.length
  | [], _ => by simp [val]
  | x :: l, h => by
    have hx := h.head
    have ih := val_lt l h.tail
    simp only [val, List.length_cons, Nat.pow_succ]
    omega
theorem val_wordsOf : ∀ n v, v < 18446744073709551616 ^ n → val (wordsOf n v) = v
  | 0, v, h => by simp only [Nat.pow_zero] at h; simp only [wordsOf, val]; omega
  | n + 1, v, h => by
    simp only [Nat.pow_succ] at h
    simp only [wordsOf, val]
    rw [val_wordsOf n (v / 18446744073709551616) (by rw [Nat.div_lt_iff_lt_mul (by decide)]; exact h)]
    omega
theorem val_inj {l l' : List Nat} (h : Ws l) (h' : Ws l') (hl : l.length = l'.length) (hv : val l = val l') : l = l' := by
  rw [← wordsOf_val l h, ← wordsOf_val l' h', hl, hv]

/-! ### Chains -/
/-- zs is xs + ys + c, word for word, and c' goes over. -/
def AddC : List Nat → List Nat → Nat → List Nat → Nat → Prop
  | [], [], c, [], c' => c = c'
  | x :: xs, y :: ys, c, z :: zs, c' => z = (x + y + c) % 18446744073709551616 ∧ AddC xs ys ((x + y + c) / 18446744073709551616) zs c'
  | _, _, _, _, _ => False
/-- zs is xs - ys - c, word for word, and c' is owed. -/
def SubC : List Nat → List Nat → Nat → List Nat → Nat → Prop
  | [], [], c, [], c' => c = c'
  | x :: xs, y :: ys, c, z :: zs, c' => z = (x + 18446744073709551616 - y - c) % 18446744073709551616 ∧ SubC xs ys (if x < y + c then 1 else 0) zs c'
  | _, _, _, _, _ => False

theorem AddC.val : ∀ (xs ys : List Nat) (c : Nat) (zs : List Nat) (c' : Nat), AddC xs ys c zs c' → zs.length = xs.length ∧ Num.val zs + 18446744073709551616 ^ xs.length * c' = Num.val xs + Num.val ys + c
  | [], [], c, [], c', h => by simp only [AddC] at h; subst h; simp [Num.val]
  | x :: xs, y :: ys, c, z :: zs, c', h => by
    obtain ⟨h1, h2⟩ := h
    obtain ⟨l, ih⟩ := AddC.val xs ys _ zs c' h2
    refine ⟨by simp [l], ?_⟩
    simp only [Num.val, List.length_cons, Nat.pow_succ]
    have e : 18446744073709551616 ^ xs.length * 18446744073709551616 * c' = 18446744073709551616 * (18446744073709551616 ^ xs.length * c') := by
      rw [Nat.mul_comm (18446744073709551616 ^ xs.length) 18446744073709551616, Nat.mul_assoc]
    rw [e]
    generalize 18446744073709551616 ^ xs.length * c' = q at *
    omega
  | [], [], _, _ :: _, _, h => by cases h
  | [], _ :: _, _, _, _, h => by cases h
  | _ :: _, [], _, _, _, h => by cases h
  | _ :: _, _ :: _, _, [], _, h => by cases h
theorem AddC.bit : ∀ (xs ys : List Nat) (c : Nat) (zs : List Nat) (c' : Nat), Ws xs → Ws ys → c ≤ 1 → AddC xs ys c zs c' → c' ≤ 1 ∧ Ws zs
  | [], [], c, [], c', _, _, hc, h => by simp only [AddC] at h; subst h; exact ⟨hc, Ws.nil⟩
  | x :: xs, y :: ys, c, z :: zs, c', hx, hy, hc, h => by
    obtain ⟨h1, h2⟩ := h
    have := hx.head
    have := hy.head
    obtain ⟨i1, i2⟩ := AddC.bit xs ys _ zs c' hx.tail hy.tail (by omega) h2
    exact ⟨i1, Ws.cons (by omega) i2⟩
  | [], [], _, _ :: _, _, _, _, _, h => by cases h
  | [], _ :: _, _, _, _, _, _, _, h => by cases h
  | _ :: _, [], _, _, _, _, _, _, h => by cases h
  | _ :: _, _ :: _, _, [], _, _, _, _, h => by cases h

theorem SubC.val : ∀ (xs ys : List Nat) (c : Nat) (zs : List Nat) (c' : Nat), Ws xs → Ws ys → c ≤ 1 → SubC xs ys c zs c' →
    zs.length = xs.length ∧ Ws zs ∧ c' ≤ 1 ∧ Num.val zs + Num.val ys + c = Num.val xs + 18446744073709551616 ^ xs.length * c'
  | [], [], c, [], c', _, _, hc, h => by simp only [SubC] at h; subst h; simp [Num.val, hc, Ws.nil]
  | x :: xs, y :: ys, c, z :: zs, c', hx, hy, hc, h => by
    obtain ⟨h1, h2⟩ := h
    have hx' := hx.head
    have hy' := hy.head
    obtain ⟨l, hw, hb, ih⟩ := SubC.val xs ys _ zs c' hx.tail hy.tail (by split <;> omega) h2
    refine ⟨by simp [l], Ws.cons (by omega) hw, hb, ?_⟩
    simp only [Num.val, List.length_cons, Nat.pow_succ]
    have e : 18446744073709551616 ^ xs.length * 18446744073709551616 * c' = 18446744073709551616 * (18446744073709551616 ^ xs.length * c') := by
      rw [Nat.mul_comm (18446744073709551616 ^ xs.length) 18446744073709551616, Nat.mul_assoc]
    rw [e]
    generalize 18446744073709551616 ^ xs.length * c' = q at *
    split at ih <;> omega
  | [], [], _, _ :: _, _, _, _, _, h => by cases h
  | [], _ :: _, _, _, _, _, _, _, h => by cases h
  | _ :: _, [], _, _, _, _, _, _, h => by cases h
  | _ :: _, _ :: _, _, [], _, _, _, _, h => by cases h

/-- A sum modulo p, as the code makes it: the sum, the sum less p, and one of them. -/
theorem add_mod {p : Nat} {as bs ps ss ds : List Nat} {c b : Nat} (ha : Ws as) (hb : Ws bs) (hp : Ws ps) (hl : as.length = ps.length) (hl' : as.length = bs.length)
    (hpv : val ps = p) (lta : val as < p) (ltb : val bs < p) (h1 : AddC as bs 0 ss c) (h2 : SubC ss ps 0 ds b) :
    (if c < b then ss else ds) = wordsOf as.length ((val as + val bs) % p) := by
  obtain ⟨l1, v1⟩ := AddC.val _ _ _ _ _ h1
  obtain ⟨c1, w1⟩ := AddC.bit _ _ _ _ _ ha hb (by omega) h1
  obtain ⟨l2, w2, b1, v2⟩ := SubC.val _ _ _ _ _ w1 hp (by omega) h2
  have ls := val_lt ss w1
  have ld := val_lt ds w2
  have lp := val_lt ps hp
  rw [l2] at ld
  rw [l1] at ls ld v2
  rw [← hl, hpv] at lp
  rw [hpv] at v2
  simp only [Nat.add_zero] at v1 v2
  have hc : c = 0 ∨ c = 1 := by omega
  have hb' : b = 0 ∨ b = 1 := by omega
  generalize 18446744073709551616 ^ as.length = q at *
  have done : ∀ l : List Nat, Ws l → l.length = as.length → val l = (val as + val bs) % p → l = wordsOf as.length ((val as + val bs) % p) :=
    fun l hw hl hv => (wordsOf_of hw hl hv).symm
  by_cases hcb : c < b
  · rw [if_pos hcb]
    obtain rfl : c = 0 := by omega
    obtain rfl : b = 1 := by omega
    refine done ss w1 l1 ?_
    rw [Nat.mod_eq_of_lt (by omega)]
    omega
  · rw [if_neg hcb]
    refine done ds w2 (by omega) ?_
    have e : (val as + val bs) % p = val as + val bs - p := by
      rw [Nat.mod_eq_sub_mod (by rcases hc with rfl | rfl <;> rcases hb' with rfl | rfl <;> omega), Nat.mod_eq_of_lt (by omega)]
    rw [e]
    rcases hc with rfl | rfl <;> rcases hb' with rfl | rfl <;> omega

/-- A difference modulo p, as the code makes it: the difference, and p or nothing added. -/
theorem sub_mod {p : Nat} {as bs ps ss ms ds : List Nat} {b c : Nat} (ha : Ws as) (hb : Ws bs) (hp : Ws ps) (hl : as.length = ps.length) (hl' : as.length = bs.length)
    (hpv : val ps = p) (lta : val as < p) (ltb : val bs < p) (h1 : SubC as bs 0 ss b) (hm : Ws ms) (hml : ms.length = as.length) (hmv : val ms = if b = 0 then 0 else p) (h2 : AddC ss ms 0 ds c) :
    ds = wordsOf as.length ((val as + (p - val bs)) % p) := by
  obtain ⟨l1, w1, b1, v1⟩ := SubC.val _ _ _ _ _ ha hb (by omega) h1
  obtain ⟨l2, v2⟩ := AddC.val _ _ _ _ _ h2
  obtain ⟨c1, w2⟩ := AddC.bit _ _ _ _ _ w1 hm (by omega) h2
  have ls := val_lt ss w1
  have ld := val_lt ds w2
  have lp := val_lt ps hp
  rw [l2] at ld
  rw [l1] at ls ld v2
  rw [← hl, hpv] at lp
  simp only [Nat.add_zero] at v1 v2
  have hc : c = 0 ∨ c = 1 := by omega
  have hb' : b = 0 ∨ b = 1 := by omega
  generalize 18446744073709551616 ^ as.length = q at *
  refine (wordsOf_of w2 (by omega) ?_).symm
  rcases hb' with rfl | rfl
  · simp only [if_true] at hmv
    have e : (val as + (p - val bs)) % p = val as - val bs := by
      rw [Nat.mod_eq_sub_mod (by omega), Nat.mod_eq_of_lt (by omega)]; omega
    rw [e]
    rcases hc with rfl | rfl <;> omega
  · simp only [Nat.one_ne_zero, if_false] at hmv
    rw [Nat.mod_eq_of_lt (by omega)]
    rcases hc with rfl | rfl <;> omega

/-! ### Bytes -/
/-- Byte i of a number of words, the least first. -/
def byteAt (l : List Nat) (i : Nat) : Nat := l.getD (i / 8) 0 / 2 ^ (8 * (i % 8)) % 256
def valB : List Nat → Nat
  | [] => 0
  | x :: l => x + 256 * valB l
theorem cons2 {x y : Nat} {l l' : List Nat} (h : x = y) (h' : l = l') : x :: l = y :: l' := by rw [h, h']
theorem low_0 {x y z : Nat} (h : y = x % 256) (h' : z = y % 256) : z = x / 2 ^ (8 * 0) % 256 := by
  rw [h', h]; simp
theorem low_k {x s y z k : Nat} (hs : s = x / 2 ^ (8 * k)) (h : y = s % 256) (h' : z = y % 256) : z = x / 2 ^ (8 * k) % 256 := by
  rw [h', h, hs, Nat.mod_mod]
theorem low_1 {x s z k : Nat} (hs : s = x / 2 ^ (8 * k)) (h' : z = s % 256) : z = x / 2 ^ (8 * k) % 256 := by
  rw [h', hs]
theorem shr_1 {x s : Nat} (h : s = x / 2 ^ 8) : s = x / 2 ^ (8 * 1) := h
theorem shr_k {x s s' k : Nat} (hs : s = x / 2 ^ (8 * k)) (h : s' = s / 2 ^ 8) : s' = x / 2 ^ (8 * (k + 1)) := by
  rw [h, hs, Nat.div_div_eq_div_mul, ← Nat.pow_add, Nat.mul_add]
theorem join4 {b0 b1 b2 b3 x1 x2 x3 s1 s2 s3 : Nat} (h0 : b0 < 256) (h1 : b1 < 256) (h2 : b2 < 256) (h3 : b3 < 256)
    (e1 : x1 = b1 * 256 % 18446744073709551616) (e2 : x2 = b2 * 65536 % 18446744073709551616) (e3 : x3 = b3 * 16777216 % 18446744073709551616)
    (f1 : s1 = (x1 + b0) % 18446744073709551616) (f2 : s2 = (x2 + s1) % 18446744073709551616) (f3 : s3 = (x3 + s2) % 18446744073709551616) : s3 = valB [b0, b1, b2, b3] := by
  simp only [valB]; omega
theorem join8 {b0 b1 b2 b3 b4 b5 b6 b7 x1 x2 x3 x4 x5 x6 x7 s1 s2 s3 s4 s5 s6 s7 : Nat} (h0 : b0 < 256) (h1 : b1 < 256) (h2 : b2 < 256) (h3 : b3 < 256) (h4 : b4 < 256) (h5 : b5 < 256) (h6 : b6 < 256) (h7 : b7 < 256)
    (e1 : x1 = b1 * 256 % 18446744073709551616) (e2 : x2 = b2 * 65536 % 18446744073709551616) (e3 : x3 = b3 * 16777216 % 18446744073709551616) (e4 : x4 = b4 * 4294967296 % 18446744073709551616)
    (e5 : x5 = b5 * 1099511627776 % 18446744073709551616) (e6 : x6 = b6 * 281474976710656 % 18446744073709551616) (e7 : x7 = b7 * 72057594037927936 % 18446744073709551616)
    (f1 : s1 = (x1 + b0) % 18446744073709551616) (f2 : s2 = (x2 + s1) % 18446744073709551616) (f3 : s3 = (x3 + s2) % 18446744073709551616) (f4 : s4 = (x4 + s3) % 18446744073709551616)
    (f5 : s5 = (x5 + s4) % 18446744073709551616) (f6 : s6 = (x6 + s5) % 18446744073709551616) (f7 : s7 = (x7 + s6) % 18446744073709551616) : s7 = valB [b0, b1, b2, b3, b4, b5, b6, b7] := by
  have d4 := join4 h0 h1 h2 h3 e1 e2 e3 f1 f2 f3
  clear e1 e2 e3 f1 f2 f3
  simp only [valB] at d4 ⊢
  omega
theorem unbytes8 {x : Nat} (h : x < 18446744073709551616) : valB [x / 2 ^ (8 * 0) % 256, x / 2 ^ (8 * 1) % 256, x / 2 ^ (8 * 2) % 256, x / 2 ^ (8 * 3) % 256, x / 2 ^ (8 * 4) % 256, x / 2 ^ (8 * 5) % 256, x / 2 ^ (8 * 6) % 256, x / 2 ^ (8 * 7) % 256] = x := by
  simp only [valB, Nat.reduceMul, Nat.reducePow]
  omega
theorem unbytes4 {x : Nat} (h : x < 4294967296) : valB [x / 2 ^ (8 * 0) % 256, x / 2 ^ (8 * 1) % 256, x / 2 ^ (8 * 2) % 256, x / 2 ^ (8 * 3) % 256] = x := by
  simp only [valB, Nat.reduceMul, Nat.reducePow]
  omega
theorem byteAt_lt (l : List Nat) (i : Nat) : byteAt l i < 256 := Nat.mod_lt _ (by decide)
end Go.Proofs.Ytnpeilpnpedmcaa.Num
