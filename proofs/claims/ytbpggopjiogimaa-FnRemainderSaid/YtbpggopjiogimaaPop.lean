import Derived.Test.YtbpggopjiogimaaBitsPlain
set_option linter.unusedVariables false
namespace Go.Proofs.Ytbpggopjiogimaa.Plain

theorem and_split (a b k : Nat) : a &&& b = (a / 2 ^ k &&& b / 2 ^ k) * 2 ^ k + (a % 2 ^ k &&& b % 2 ^ k) := by
  rw [← Nat.and_div_two_pow, ← Nat.and_mod_two_pow, Nat.mul_comm]
  exact (Nat.div_add_mod _ _).symm

theorem and_split8 (a b c d : Nat) (hb : b < 256) (hd : d < 256) : (a * 256 + b) &&& (c * 256 + d) = (a &&& c) * 256 + (b &&& d) := by
  have e1 : ∀ a b : Nat, b < 256 → (a * 256 + b) / 2 ^ 8 = a := by intro a b h; simp only [Nat.reducePow]; omega
  have e3 : ∀ a b : Nat, b < 256 → (a * 256 + b) % 2 ^ 8 = b := by intro a b h; simp only [Nat.reducePow]; omega
  rw [and_split (a * 256 + b) (c * 256 + d) 8, e1 a b hb, e1 c d hd, e3 a b hb, e3 c d hd]

/-- the number of bytes, the lowest first -/
def ofB : List Nat → Nat
  | [] => 0
  | b :: l => ofB l * 256 + b
def rep (c : Nat) : List Nat → Nat
  | [] => 0
  | _ :: l => rep c l * 256 + c
def t1 (b : Nat) : Nat := (b / 2 &&& 0x55) + (b &&& 0x55)
def t2 (b : Nat) : Nat := (b / 4 &&& 0x33) + (b &&& 0x33)
def t3 (b : Nat) : Nat := (b / 16 + b) &&& 0x0f

theorem fin256 (P : Nat → Prop) (h : ∀ b : Fin 256, P b.val) (b : Nat) (hb : b < 256) : P b := h ⟨b, hb⟩

set_option maxRecDepth 100000 in
theorem t1_lo : ∀ b : Fin 256, (128 + b.val / 2) &&& 0x55 = b.val / 2 &&& 0x55 ∧ t1 b.val < 256 := by decide +kernel
set_option maxRecDepth 100000 in
theorem t2_lo : ∀ b : Fin 256, (64 + b.val / 4) &&& 0x33 = b.val / 4 &&& 0x33 ∧ (128 + b.val / 4) &&& 0x33 = b.val / 4 &&& 0x33 ∧ (192 + b.val / 4) &&& 0x33 = b.val / 4 &&& 0x33 := by decide +kernel
set_option maxRecDepth 100000 in
theorem t12_lo : ∀ b : Fin 256, t2 (t1 b.val) < 256 ∧ t2 (t1 b.val) % 16 ≤ 4 ∧ t2 (t1 b.val) / 16 ≤ 4 := by decide +kernel
set_option maxRecDepth 100000 in
theorem t123 : ∀ b : Fin 256, t3 (t2 (t1 b.val)) = onesB b.val 8 := by decide +kernel

theorem step1 (l : List Nat) (h : ∀ b ∈ l, b < 256) : (ofB l / 2 &&& rep 0x55 l) + (ofB l &&& rep 0x55 l) = ofB (l.map t1) := by
  induction l with
  | nil => simp [ofB, rep]
  | cons b l ih =>
    have hb : b < 256 := h b (by simp)
    have ih' := ih fun c hc => h c (by simp [hc])
    simp only [ofB, rep, List.map_cons]
    rw [← ih']
    have e : (ofB l * 256 + b) / 2 = ofB l / 2 * 256 + (ofB l % 2 * 128 + b / 2) := by omega
    rw [e, and_split8 _ _ _ _ (by omega) (by decide), and_split8 _ _ _ _ hb (by decide)]
    have hb2 := (t1_lo ⟨b, hb⟩).1
    have : (ofB l % 2 * 128 + b / 2) &&& 0x55 = b / 2 &&& 0x55 := by
      rcases (by omega : ofB l % 2 = 0 ∨ ofB l % 2 = 1) with h0 | h0
      · rw [h0, Nat.zero_mul, Nat.zero_add]
      · rw [h0, Nat.one_mul]; exact hb2
    rw [this]; unfold t1; omega

theorem step2 (l : List Nat) (h : ∀ b ∈ l, b < 256) : (ofB l / 4 &&& rep 0x33 l) + (ofB l &&& rep 0x33 l) = ofB (l.map t2) := by
  induction l with
  | nil => simp [ofB, rep]
  | cons b l ih =>
    have hb : b < 256 := h b (by simp)
    have ih' := ih fun c hc => h c (by simp [hc])
    simp only [ofB, rep, List.map_cons]
    rw [← ih']
    have e : (ofB l * 256 + b) / 4 = ofB l / 4 * 256 + (ofB l % 4 * 64 + b / 4) := by omega
    rw [e, and_split8 _ _ _ _ (by omega) (by decide), and_split8 _ _ _ _ hb (by decide)]
    obtain ⟨g1, g2, g3⟩ := t2_lo ⟨b, hb⟩
    have : (ofB l % 4 * 64 + b / 4) &&& 0x33 = b / 4 &&& 0x33 := by
      rcases (by omega : ofB l % 4 = 0 ∨ ofB l % 4 = 1 ∨ ofB l % 4 = 2 ∨ ofB l % 4 = 3) with h0 | h0 | h0 | h0
      · rw [h0, Nat.zero_mul, Nat.zero_add]
      · rw [h0]; exact g1
      · rw [h0]; exact g2
      · rw [h0]; exact g3
    rw [this]; unfold t2; omega

theorem low_nibble (a b : Nat) (h : b < 16) : (a * 16 + b) &&& 15 = b := by
  have e : (15 : Nat) = 2 ^ 4 - 1 := by decide +kernel
  rw [e, Nat.and_two_pow_sub_one_eq_mod]; omega

theorem step3 (l : List Nat) (h : ∀ b ∈ l, b < 256 ∧ b % 16 ≤ 4 ∧ b / 16 ≤ 4) : (ofB l / 16 + ofB l) &&& rep 0x0f l = ofB (l.map t3) := by
  induction l with
  | nil => simp [ofB, rep]
  | cons b l ih =>
    obtain ⟨hb, h1, h2⟩ := h b (by simp)
    have ih' := ih fun c hc => h c (by simp [hc])
    simp only [ofB, rep, List.map_cons]
    rw [← ih']
    have hl : ofB l % 16 ≤ 4 := by
      cases l with
      | nil => simp [ofB]
      | cons c l' => have := (h c (by simp)).2.1; simp only [ofB]; omega
    have e : (ofB l * 256 + b) / 16 + (ofB l * 256 + b) = (ofB l / 16 + ofB l) * 256 + (ofB l % 16 * 16 + b / 16 + b) := by omega
    rw [e, and_split8 _ _ _ _ (by omega) (by decide)]
    congr 1
    unfold t3
    have e1 : ofB l % 16 * 16 + b / 16 + b = (ofB l % 16 + b / 16) * 16 + (b / 16 + b % 16) := by omega
    have e2 : b / 16 + b = b / 16 * 16 + (b / 16 + b % 16) := by omega
    rw [e1, e2]
    show _ &&& 15 = _ &&& 15
    rw [low_nibble _ _ (by omega), low_nibble _ _ (by omega)]

/-- the eight bytes of a number -/
def by8 (x : Nat) : List Nat := [x % 256, x / 256 % 256, x / 65536 % 256, x / 16777216 % 256, x / 4294967296 % 256, x / 1099511627776 % 256, x / 281474976710656 % 256, x / 72057594037927936 % 256]

theorem ofB_by8 (x : Nat) (h : x < 18446744073709551616) : ofB (by8 x) = x := by
  simp only [by8, ofB]; omega

theorem ones_by8 (x : Nat) : onesB x 64 = onesB (x % 256) 8 + onesB (x / 256 % 256) 8 + onesB (x / 65536 % 256) 8 + onesB (x / 16777216 % 256) 8 + onesB (x / 4294967296 % 256) 8 + onesB (x / 1099511627776 % 256) 8 + onesB (x / 281474976710656 % 256) 8 + onesB (x / 72057594037927936 % 256) 8 := by
  have m := fun y => onesB_mod y 8 8 (Nat.le_refl 8)
  simp only [show (2 : Nat) ^ 8 = 256 from rfl] at m
  simp only [m]
  have a := fun y n => onesB_add y 8 n
  rw [show (64 : Nat) = 8 + (8 + (8 + (8 + (8 + (8 + (8 + 8)))))) from rfl, a, a, a, a, a, a, a]
  simp only [Nat.div_div_eq_div_mul, show (2 : Nat) ^ 8 = 256 from rfl, Nat.reduceMul]
  omega

/-- the parallel sum of bits of math/bits.OnesCount64 -/
def swar (x : Nat) : Nat :=
  let x1 := (x / 2 &&& 0x5555555555555555) + (x &&& 0x5555555555555555)
  let x2 := (x1 / 4 &&& 0x3333333333333333) + (x1 &&& 0x3333333333333333)
  (x2 / 16 + x2) &&& 0x0f0f0f0f0f0f0f0f

theorem swar_eq (x : Nat) (h : x < 18446744073709551616) : swar x = ofB ((by8 x).map fun b => onesB b 8) := by
  have hb : ∀ b ∈ by8 x, b < 256 := by
    intro b hb; simp only [by8, List.mem_cons, List.not_mem_nil, or_false] at hb; omega
  have r5 : rep 0x55 (by8 x) = 0x5555555555555555 := by simp [rep, by8]
  have r3 : rep 0x33 ((by8 x).map t1) = 0x3333333333333333 := by simp [rep, by8]
  have rf : rep 0x0f (((by8 x).map t1).map t2) = 0x0f0f0f0f0f0f0f0f := by simp [rep, by8]
  have e1 := step1 (by8 x) hb
  rw [ofB_by8 x h, r5] at e1
  have h1 : ∀ b ∈ (by8 x).map t1, b < 256 := by
    intro b hm
    obtain ⟨c, hc, rfl⟩ := List.mem_map.1 hm
    exact (t1_lo ⟨c, hb c hc⟩).2
  have e2 := step2 _ h1
  rw [← e1, r3] at e2
  have h2 : ∀ b ∈ ((by8 x).map t1).map t2, b < 256 ∧ b % 16 ≤ 4 ∧ b / 16 ≤ 4 := by
    intro b hm
    rw [List.map_map] at hm
    obtain ⟨c, hc, rfl⟩ := List.mem_map.1 hm
    exact t12_lo ⟨c, hb c hc⟩
  have e3 := step3 _ h2
  rw [← e2, rf] at e3
  unfold swar
  simp only []
  rw [e3, List.map_map, List.map_map]
  congr 1
  apply List.map_congr_left
  intro b hm
  exact t123 ⟨b, hb b hm⟩

theorem sw_a (p0 p1 p2 p3 p4 p5 p6 p7 a : Nat) (h0 : p0 ≤ 8) (ha : a = p0 + 256 * p1 + 65536 * p2 + 16777216 * p3 + 4294967296 * p4 + 1099511627776 * p5 + 281474976710656 * p6 + 72057594037927936 * p7) :
    a + a / 256 = (p0 + p1) + 256 * (p1 + p2) + 65536 * (p2 + p3) + 16777216 * (p3 + p4) + 4294967296 * (p4 + p5) + 1099511627776 * (p5 + p6) + 281474976710656 * (p6 + p7) + 72057594037927936 * p7 := by omega
theorem sw_b (q0 q1 q2 q3 q4 q5 q6 q7 b : Nat) (h0 : q0 ≤ 16) (h1 : q1 ≤ 16) (hb : b = q0 + 256 * q1 + 65536 * q2 + 16777216 * q3 + 4294967296 * q4 + 1099511627776 * q5 + 281474976710656 * q6 + 72057594037927936 * q7) :
    b + b / 65536 = (q0 + q2) + 256 * (q1 + q3) + 65536 * (q2 + q4) + 16777216 * (q3 + q5) + 4294967296 * (q4 + q6) + 1099511627776 * (q5 + q7) + 281474976710656 * q6 + 72057594037927936 * q7 := by omega
theorem sw_c (q0 q1 q2 q3 q4 q5 q6 q7 b : Nat) (h0 : q0 ≤ 32) (h1 : q1 ≤ 32) (h2 : q2 ≤ 32) (h3 : q3 ≤ 32) (hb : b = q0 + 256 * q1 + 65536 * q2 + 16777216 * q3 + 4294967296 * q4 + 1099511627776 * q5 + 281474976710656 * q6 + 72057594037927936 * q7) :
    (b + b / 4294967296) = (q0 + q4) + 256 * (q1 + q5 + 256 * (q2 + q6 + 256 * (q3 + q7 + 256 * (q4 + 256 * q5 + 65536 * q6 + 16777216 * q7)))) := by omega
theorem sw_d (s r d : Nat) (h : s ≤ 64) (hd : d = s + 256 * r) : d % 128 = s := by omega

/-- the last steps of the parallel sum: the sum of the eight bytes -/
def swar2 (a : Nat) : Nat :=
  let b := a + a / 256
  let c := b + b / 65536
  let d := c + c / 4294967296
  d % 128

theorem swar_sum (p0 p1 p2 p3 p4 p5 p6 p7 : Nat) (h0 : p0 ≤ 8) (h1 : p1 ≤ 8) (h2 : p2 ≤ 8) (h3 : p3 ≤ 8) (h4 : p4 ≤ 8) (h5 : p5 ≤ 8) (h6 : p6 ≤ 8) (h7 : p7 ≤ 8) :
    swar2 (ofB [p0, p1, p2, p3, p4, p5, p6, p7]) = p0 + p1 + p2 + p3 + p4 + p5 + p6 + p7 := by
  have ha : ofB [p0, p1, p2, p3, p4, p5, p6, p7] = p0 + 256 * p1 + 65536 * p2 + 16777216 * p3 + 4294967296 * p4 + 1099511627776 * p5 + 281474976710656 * p6 + 72057594037927936 * p7 := by
    simp only [ofB]; omega
  unfold swar2
  simp only []
  have k01 : p0 + p1 ≤ 16 := Nat.add_le_add h0 h1
  have k12 : p1 + p2 ≤ 16 := Nat.add_le_add h1 h2
  have k23 : p2 + p3 ≤ 16 := Nat.add_le_add h2 h3
  have k34 : p3 + p4 ≤ 16 := Nat.add_le_add h3 h4
  have k45 : p4 + p5 ≤ 16 := Nat.add_le_add h4 h5
  have k56 : p5 + p6 ≤ 16 := Nat.add_le_add h5 h6
  have k67 : p6 + p7 ≤ 16 := Nat.add_le_add h6 h7
  have k := Nat.add_le_add (Nat.add_le_add k01 k23) (Nat.add_le_add k45 k67)
  have hb := sw_a p0 p1 p2 p3 p4 p5 p6 p7 _ h0 ha
  have hc := sw_b _ _ _ _ _ _ _ _ _ k01 k12 hb
  have hd := sw_c _ _ _ _ _ _ _ _ _ (Nat.add_le_add k01 k23) (Nat.add_le_add k12 k34) (Nat.add_le_add k23 k45) (Nat.add_le_add k34 k56) hc
  rw [sw_d _ _ _ k hd]
  clear ha hb hc hd
  omega

theorem swar_lt (x : Nat) (h : x < 18446744073709551616) : swar x < 651061555542690058 := by
  rw [swar_eq x h]
  simp only [by8, List.map_cons, List.map_nil, ofB]
  have b := fun y => onesB_le y 8
  have b0 := b (x % 256); have b1 := b (x / 256 % 256); have b2 := b (x / 65536 % 256); have b3 := b (x / 16777216 % 256)
  have b4 := b (x / 4294967296 % 256); have b5 := b (x / 1099511627776 % 256); have b6 := b (x / 281474976710656 % 256); have b7 := b (x / 72057594037927936 % 256)
  generalize onesB (x % 256) 8 = p0 at *
  generalize onesB (x / 256 % 256) 8 = p1 at *
  generalize onesB (x / 65536 % 256) 8 = p2 at *
  generalize onesB (x / 16777216 % 256) 8 = p3 at *
  generalize onesB (x / 4294967296 % 256) 8 = p4 at *
  generalize onesB (x / 1099511627776 % 256) 8 = p5 at *
  generalize onesB (x / 281474976710656 % 256) 8 = p6 at *
  generalize onesB (x / 72057594037927936 % 256) 8 = p7 at *
  clear b
  omega

theorem swar_ones (x : Nat) (h : x < 18446744073709551616) : swar2 (swar x) = onesB x 64 := by
  rw [swar_eq x h, ones_by8]
  have b := fun y => onesB_le y 8
  exact swar_sum _ _ _ _ _ _ _ _ (b _) (b _) (b _) (b _) (b _) (b _) (b _) (b _)

end Go.Proofs.Ytbpggopjiogimaa.Plain
