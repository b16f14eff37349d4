/- The plain law of LawS6667CWhole: bits of a word counted and chosen, places counted. No Go in it. -/
namespace Go.Proofs.YbulkehayDoor

def pop : Nat → Nat → Nat
  | 0, _ => 0
  | n + 1, x => x % 2 + pop n (x / 2)

def sel : Nat → Nat → Nat → Nat
  | 0, _, _ => 0
  | n + 1, x, j => if x % 2 = 1 then (if j = 0 then 0 else 1 + sel n (x / 2) (j - 1)) else 1 + sel n (x / 2) j

theorem pop_split : ∀ (m n x : Nat), pop (m + n) x = pop m x + pop n (x / 2 ^ m)
  | 0, n, x => by simp [pop]
  | m + 1, n, x => by
    rw [Nat.add_right_comm, pop, pop, pop_split m n, Nat.div_div_eq_div_mul, Nat.pow_succ, Nat.mul_comm 2, Nat.add_assoc]

theorem pop_le : ∀ (n x : Nat), pop n x ≤ n
  | 0, _ => Nat.le_refl _
  | n + 1, x => by have := pop_le n (x / 2); simp only [pop]; omega

theorem sel_lt : ∀ (n x j : Nat), j < pop n x → sel n x j < n
  | 0, _, _, h => by simp [pop] at h
  | n + 1, x, j, h => by
    simp only [pop] at h
    simp only [sel]
    by_cases e : x % 2 = 1
    · rw [if_pos e]
      by_cases e2 : j = 0
      · rw [if_pos e2]; omega
      · rw [if_neg e2]
        have := sel_lt n (x / 2) (j - 1) (by omega)
        omega
    · rw [if_neg e]
      have := sel_lt n (x / 2) j (by omega)
      omega

theorem sel_lo : ∀ (m n x j : Nat), j < pop m x → sel (m + n) x j = sel m x j
  | 0, _, _, _, h => by simp [pop] at h
  | m + 1, n, x, j, h => by
    simp only [pop] at h
    rw [Nat.add_right_comm, sel, sel]
    by_cases e : x % 2 = 1
    · rw [if_pos e, if_pos e]
      by_cases e2 : j = 0
      · rw [if_pos e2, if_pos e2]
      · rw [if_neg e2, if_neg e2, sel_lo m n _ _ (by omega)]
    · rw [if_neg e, if_neg e, sel_lo m n _ _ (by omega)]

theorem sel_hi : ∀ (m n x j : Nat), pop m x ≤ j → sel (m + n) x j = m + sel n (x / 2 ^ m) (j - pop m x)
  | 0, n, x, j, _ => by simp [pop]
  | m + 1, n, x, j, h => by
    simp only [pop] at h
    rw [Nat.add_right_comm, sel, pop]
    by_cases e : x % 2 = 1
    · rw [if_pos e, if_neg (by omega), sel_hi m n _ _ (by omega), Nat.div_div_eq_div_mul, Nat.pow_succ, Nat.mul_comm 2]
      have : j - 1 - pop m (x / 2) = j - (x % 2 + pop m (x / 2)) := by omega
      rw [this]; omega
    · rw [if_neg e, sel_hi m n _ _ (by omega), Nat.div_div_eq_div_mul, Nat.pow_succ, Nat.mul_comm 2]
      have : j - pop m (x / 2) = j - (x % 2 + pop m (x / 2)) := by omega
      rw [this]; omega

theorem mod_half (m x : Nat) : (x % 2 ^ (m + 1)) / 2 = (x / 2) % 2 ^ m := by
  rw [Nat.pow_succ, Nat.mul_comm, Nat.mod_mul_right_div_self]
theorem mod_low (m x : Nat) : (x % 2 ^ (m + 1)) % 2 = x % 2 := by
  rw [Nat.pow_succ, Nat.mul_comm]; exact Nat.mod_mul_right_mod x 2 _

theorem pop_mod : ∀ (m x : Nat), pop m (x % 2 ^ m) = pop m x
  | 0, _ => rfl
  | m + 1, x => by rw [pop, pop, mod_half, mod_low, pop_mod m]
theorem sel_mod : ∀ (m x j : Nat), sel m (x % 2 ^ m) j = sel m x j
  | 0, _, _ => rfl
  | m + 1, x, j => by rw [sel, sel, mod_half, mod_low, sel_mod m, sel_mod m]

theorem pop_zero : ∀ n, pop n 0 = 0
  | 0 => rfl
  | n + 1 => by rw [pop, pop_zero n]
theorem pop_more (m n x : Nat) (h : x < 2 ^ m) : pop (m + n) x = pop m x := by
  rw [pop_split, Nat.div_eq_of_lt h, pop_zero]; rfl

/-! ### bits.OnesCount64 -/
def m55 : Nat → Nat
  | 0 => 0
  | n + 1 => 256 * m55 n + 0x55
def m33 : Nat → Nat
  | 0 => 0
  | n + 1 => 256 * m33 n + 0x33
def m0f : Nat → Nat
  | 0 => 0
  | n + 1 => 256 * m0f n + 0x0f
def g1 (b : Nat) : Nat := ((b / 2) &&& 0x55) + (b &&& 0x55)
def g2 (b : Nat) : Nat := ((b / 4) &&& 0x33) + (b &&& 0x33)
def g3 (b : Nat) : Nat := (b / 16 + b) &&& 0x0f
def F1 (n x : Nat) : Nat := ((x / 2) &&& m55 n) + (x &&& m55 n)
def F2 (n x : Nat) : Nat := ((x / 4) &&& m33 n) + (x &&& m33 n)
def F3 (n x : Nat) : Nat := (x / 16 + x) &&& m0f n

theorem and_parts (h b M m : Nat) (hb : b < 256) (hm : m < 256) : (256 * h + b) &&& (256 * M + m) = 256 * (h &&& M) + (b &&& m) := by
  apply Nat.eq_of_testBit_eq
  intro i
  have hbm : b &&& m < 2 ^ 8 := Nat.and_lt_two_pow _ (by omega)
  have e : (256 : Nat) = 2 ^ 8 := rfl
  rw [Nat.testBit_and, e, Nat.testBit_two_pow_mul_add _ (by omega), Nat.testBit_two_pow_mul_add _ (by omega), Nat.testBit_two_pow_mul_add _ hbm]
  split
  · rw [Nat.testBit_and]
  · rw [Nat.testBit_and]

theorem all256 {p : Nat → Prop} [DecidablePred p] (h : ∀ b : Fin 256, p b) (b : Nat) (hb : b < 256) : p b := h ⟨b, hb⟩

theorem F1_step (n h b : Nat) (hb : b < 256) : F1 (n + 1) (256 * h + b) = 256 * F1 n h + g1 b := by
  have e : (256 * h + b) / 2 = 256 * (h / 2) + (128 * (h % 2) + b / 2) := by omega
  have e2 : (128 * (h % 2) + b / 2) &&& 0x55 = (b / 2) &&& 0x55 := by
    have : h % 2 = 0 ∨ h % 2 = 1 := by omega
    rcases this with h0 | h0 <;> rw [h0]
    · simp
    · exact all256 (p := fun b => (128 * 1 + b / 2) &&& 0x55 = (b / 2) &&& 0x55) (by decide +kernel) b hb
  rw [F1, m55, e, and_parts _ _ _ _ (by omega) (by omega), and_parts _ _ _ _ hb (by omega), e2, F1, g1]; omega
theorem F2_step (n h b : Nat) (hb : b < 256) : F2 (n + 1) (256 * h + b) = 256 * F2 n h + g2 b := by
  have e : (256 * h + b) / 4 = 256 * (h / 4) + (64 * (h % 4) + b / 4) := by omega
  have e2 : (64 * (h % 4) + b / 4) &&& 0x33 = (b / 4) &&& 0x33 := by
    have : h % 4 = 0 ∨ h % 4 = 1 ∨ h % 4 = 2 ∨ h % 4 = 3 := by omega
    rcases this with h0 | h0 | h0 | h0 <;> rw [h0]
    · simp
    · exact all256 (p := fun b => (64 * 1 + b / 4) &&& 0x33 = (b / 4) &&& 0x33) (by decide +kernel) b hb
    · exact all256 (p := fun b => (64 * 2 + b / 4) &&& 0x33 = (b / 4) &&& 0x33) (by decide +kernel) b hb
    · exact all256 (p := fun b => (64 * 3 + b / 4) &&& 0x33 = (b / 4) &&& 0x33) (by decide +kernel) b hb
  rw [F2, m33, e, and_parts _ _ _ _ (by omega) (by omega), and_parts _ _ _ _ hb (by omega), e2, F2, g2]; omega
theorem F3_step (n h b : Nat) (hb : b ≤ 0x44) (hh : h % 16 ≤ 4) : F3 (n + 1) (256 * h + b) = 256 * F3 n h + g3 b := by
  have e : (256 * h + b) / 16 + (256 * h + b) = 256 * (h / 16 + h) + (16 * (h % 16) + b / 16 + b) := by omega
  have e2 : (16 * (h % 16) + b / 16 + b) &&& 0x0f = (b / 16 + b) &&& 0x0f := by
    rw [Nat.and_two_pow_sub_one_eq_mod _ 4, Nat.and_two_pow_sub_one_eq_mod _ 4]; omega
  rw [F3, m0f, e, and_parts _ _ _ _ (by omega) (by omega), e2, F3, g3]

theorem g1_lt (b : Nat) (hb : b < 256) : g1 b < 256 := all256 (p := fun b => g1 b < 256) (by decide +kernel) b hb
theorem g2_le (b : Nat) (hb : b < 256) : g2 b ≤ 0x44 ∨ g2 b < 256 := Or.inr (all256 (p := fun b => g2 b < 256) (by decide +kernel) b hb)
theorem g21 (b : Nat) (hb : b < 256) : g2 (g1 b) ≤ 0x44 ∧ g2 (g1 b) % 16 ≤ 4 := all256 (p := fun b => g2 (g1 b) ≤ 0x44 ∧ g2 (g1 b) % 16 ≤ 4) (by decide +kernel) b hb
theorem g321 (b : Nat) (hb : b < 256) : g3 (g2 (g1 b)) = pop 8 b := all256 (p := fun b => g3 (g2 (g1 b)) = pop 8 b) (by decide +kernel) b hb

def Fall (n x : Nat) : Nat := F3 n (F2 n (F1 n x))
theorem F21_mod : ∀ n x, F2 n (F1 n x) % 16 ≤ 4
  | 0, x => by simp [F2, F1, m33, m55]
  | n + 1, x => by
    have hx : x = 256 * (x / 256) + x % 256 := by omega
    have hb : x % 256 < 256 := by omega
    rw [hx, F1_step n _ _ hb, F2_step n _ _ (g1_lt _ hb)]
    have := (g21 _ hb).2
    omega
theorem Fall_step (n x : Nat) : Fall (n + 1) x = 256 * Fall n (x / 256) + pop 8 (x % 256) := by
  have hx : x = 256 * (x / 256) + x % 256 := by omega
  have hb : x % 256 < 256 := by omega
  conv => lhs; rw [hx]
  rw [Fall, F1_step n _ _ hb, F2_step n _ _ (g1_lt _ hb), F3_step n _ _ (g21 _ hb).1 (F21_mod _ _), g321 _ hb]; rfl
theorem Fall_zero (x : Nat) : Fall 0 x = 0 := by simp [Fall, F3, m0f]

theorem pop8 (x : Nat) : pop 8 (x % 256) = pop 8 x := pop_mod 8 x

theorem divp (m A r : Nat) (hm : 0 < m) (h : r < m) : (m * A + r) / m = A := by
  rw [Nat.mul_add_div hm, Nat.div_eq_of_lt h]; rfl
theorem ot1 (Y1 Y2 Y3 y a0 a1 a2 : Nat) (hy : y = 256 * Y1 + a0) (e1 : Y1 = 256 * Y2 + a1) (e2 : Y2 = 256 * Y3 + a2) : y + Y1 = 65536 * (Y2 + Y3) + (256 * (a1 + a2) + (a0 + a1)) := by omega
theorem ot2 (Y2 Y3 Y4 Y5 a2 a3 a4 : Nat) (e2 : Y2 = 256 * Y3 + a2) (e3 : Y3 = 256 * Y4 + a3) (e4 : Y4 = 256 * Y5 + a4) : Y2 + Y3 = 65536 * (Y4 + Y5) + (256 * (a3 + a4) + (a2 + a3)) := by omega
theorem ot3 (z A B C s0 s1 s2 s3 s4 s5 : Nat) (hz : z = 65536 * A + (256 * s1 + s0)) (hA : A = 65536 * B + (256 * s3 + s2)) (hB : B = 65536 * C + (256 * s5 + s4)) :
    z + A = 4294967296 * (B + C) + (65536 * (256 * (s3 + s5) + (s2 + s4)) + (256 * (s1 + s3) + (s0 + s2))) := by omega
theorem ot4 (Q R a b c e : Nat) (h : a + e < 128) : (4294967296 * Q + (65536 * b + (256 * c + a)) + (256 * R + e)) % 128 = a + e := by omega
/-- the last three sums and the mask -/
theorem ones_tail (y Y1 Y2 Y3 Y4 Y5 Y6 : Nat) (a0 a1 a2 a3 a4 a5 a6 a7 : Nat) (h0 : a0 ≤ 8) (h1 : a1 ≤ 8) (h2 : a2 ≤ 8) (h3 : a3 ≤ 8) (h4 : a4 ≤ 8) (h5 : a5 ≤ 8) (h6 : a6 ≤ 8) (h7 : a7 ≤ 8)
    (hy : y = 256 * Y1 + a0) (e1 : Y1 = 256 * Y2 + a1) (e2 : Y2 = 256 * Y3 + a2) (e3 : Y3 = 256 * Y4 + a3) (e4 : Y4 = 256 * Y5 + a4) (e5 : Y5 = 256 * Y6 + a5) (e6 : Y6 = 256 * a7 + a6) :
    (y + y / 256 + (y + y / 256) / 65536 + (y + y / 256 + (y + y / 256) / 65536) / 4294967296) % 128 = a0 + a1 + a2 + a3 + a4 + a5 + a6 + a7 := by
  have q1 : y / 256 = Y1 := by rw [hy, divp _ _ _ (by decide) (by clear e1 e2 e3 e4 e5 e6 hy; omega)]
  rw [q1]
  have z1 := ot1 _ _ _ _ _ _ _ hy e1 e2
  have q2 : (y + Y1) / 65536 = Y2 + Y3 := by rw [z1, divp _ _ _ (by decide) (by clear e1 e2 e3 e4 e5 e6 hy z1; omega)]
  rw [q2]
  have y23 := ot2 _ _ _ _ _ _ _ e2 e3 e4
  have y45 := ot2 _ _ _ _ _ _ _ e4 e5 e6
  have u1 := ot3 _ _ _ _ _ _ _ _ _ _ z1 y23 y45
  have q3 : (y + Y1 + (Y2 + Y3)) / 4294967296 = Y4 + Y5 + (Y6 + a7) := by
    rw [u1, divp _ _ _ (by decide) (by clear e1 e2 e3 e4 e5 e6 q1 q2 hy z1 y23 y45 u1; omega)]
  rw [q3, u1]
  have k1 : Y4 + Y5 + (Y6 + a7) = 256 * (Y5 + Y6 + a7) + (a4 + a5 + a6 + a7) := by
    clear e1 e2 e3 q1 q2 hy z1 y23 y45 u1 q3
    omega
  conv => lhs; lhs; rhs; rw [k1]
  rw [ot4 _ _ _ _ _ _ (by clear e1 e2 e3 e4 e5 e6 q1 q2 hy z1 y23 y45 u1 q3 k1; omega)]
  clear e1 e2 e3 e4 e5 e6 q1 q2 hy z1 y23 y45 u1 q3 k1
  omega

theorem ones64 (x : Nat) :
    (Fall 8 x + Fall 8 x / 256 + (Fall 8 x + Fall 8 x / 256) / 65536 + (Fall 8 x + Fall 8 x / 256 + (Fall 8 x + Fall 8 x / 256) / 65536) / 4294967296) % 128 = pop 64 x := by
  have st := fun n x => (Fall_step n x).trans (by rw [pop8])
  have e7 : Fall 1 (x / 256 / 256 / 256 / 256 / 256 / 256 / 256) = pop 8 (x / 256 / 256 / 256 / 256 / 256 / 256 / 256) := by rw [st, Fall_zero]; omega
  rw [ones_tail _ _ _ _ _ _ _ _ _ _ _ _ _ _ _ (pop_le _ _) (pop_le _ _) (pop_le _ _) (pop_le _ _) (pop_le _ _) (pop_le _ _) (pop_le _ _) (pop_le _ _) (st 7 x) (st 6 _) (st 5 _) (st 4 _) (st 3 _) (st 2 _) ((st 1 _).trans (by rw [e7]))]
  rw [show (64 : Nat) = 8 + (8 + (8 + (8 + (8 + (8 + (8 + 8)))))) from rfl]
  simp only [pop_split 8]
  simp only [show (2 : Nat) ^ 8 = 256 from rfl]
  omega

theorem Fall_le : ∀ n x, Fall n x < 256 ^ n
  | 0, x => by simp [Fall_zero]
  | n + 1, x => by
    rw [Fall_step]
    have := Fall_le n (x / 256)
    have := pop_le 8 (x % 256)
    rw [Nat.pow_succ]; omega
theorem F1_lt (x : Nat) : F1 8 x < 18446744073709551616 := by
  have h1 : (x / 2) &&& m55 8 ≤ m55 8 := Nat.and_le_right
  have h2 : x &&& m55 8 ≤ m55 8 := Nat.and_le_right
  have : m55 8 = 6148914691236517205 := by decide +kernel
  rw [F1]; omega
theorem F2_lt (x : Nat) : F2 8 x < 18446744073709551616 := by
  have h1 : (x / 4) &&& m33 8 ≤ m33 8 := Nat.and_le_right
  have h2 : x &&& m33 8 ≤ m33 8 := Nat.and_le_right
  have : m33 8 = 3689348814741910323 := by decide +kernel
  rw [F2]; omega

theorem F2_le (x : Nat) : F2 8 x ≤ 7378697629483820646 := by
  have h1 : (x / 4) &&& m33 8 ≤ m33 8 := Nat.and_le_right
  have h2 : x &&& m33 8 ≤ m33 8 := Nat.and_le_right
  have : m33 8 = 3689348814741910323 := by decide +kernel
  rw [F2]; omega

/-! ### a chosen bit -/
theorem sel_testBit : ∀ (n x j : Nat), j < pop n x → x.testBit (sel n x j) = true ∧ pop (sel n x j) x = j
  | 0, _, _, h => by simp [pop] at h
  | n + 1, x, j, h => by
    simp only [pop] at h
    rw [sel]
    by_cases e : x % 2 = 1
    · rw [if_pos e]
      by_cases e2 : j = 0
      · rw [if_pos e2]; simp [e, pop, e2]
      · rw [if_neg e2]
        have := sel_testBit n (x / 2) (j - 1) (by omega)
        rw [Nat.add_comm 1, Nat.testBit_succ, pop]
        exact ⟨this.1, by omega⟩
    · rw [if_neg e]
      have := sel_testBit n (x / 2) j (by omega)
      rw [Nat.add_comm 1, Nat.testBit_succ, pop]
      exact ⟨this.1, by omega⟩

/-- a byte's lowest bit struck -/
def strike (x : Nat) : Nat := x &&& (x - 1)
theorem strike8 (x : Nat) (hx : x < 256) (j : Nat) (hj : j + 1 < pop 8 x) : sel 8 x (j + 1) = sel 8 (strike x) j ∧ j < pop 8 (strike x) ∧ strike x < 256 := by
  have hj8 : j < 8 := by have := pop_le 8 x; omega
  exact (by decide +kernel : ∀ (x : Fin 256) (j : Fin 8), j.1 + 1 < pop 8 x.1 → sel 8 x.1 (j.1 + 1) = sel 8 (strike x.1) j.1 ∧ j.1 < pop 8 (strike x.1) ∧ strike x.1 < 256) ⟨x, hx⟩ ⟨j, hj8⟩ hj

/-! ### places counted -/
def cnt (B : Nat → Bool) : Nat → Nat
  | 0 => 0
  | n + 1 => cnt B n + (B n).toNat
theorem cnt_mono (B : Nat → Bool) {m n : Nat} (h : m ≤ n) : cnt B m ≤ cnt B n := by
  induction n with
  | zero => rw [Nat.le_zero.1 h]; exact Nat.le_refl _
  | succ n ih =>
    by_cases e : m = n + 1
    · rw [e]; exact Nat.le_refl _
    · have := ih (by omega); simp only [cnt]; omega
theorem cnt_le (B : Nat → Bool) (n : Nat) : cnt B n ≤ n := by
  induction n with
  | zero => exact Nat.le_refl _
  | succ n ih => simp only [cnt]; have := Bool.toNat_le (B n); omega
theorem cnt_lt {B : Nat → Bool} {i n : Nat} (h : B i = true) (hi : i < n) : cnt B i < cnt B n := by
  have := cnt_mono B (show i + 1 ≤ n from hi)
  simp only [cnt, h, Bool.toNat_true] at this; omega

/-- r is the place of the j-th B below n, or -1 where there are no more than j -/
def Found (B : Nat → Bool) (n j : Nat) (r : Int) : Prop := (∃ i : Nat, i < n ∧ r = (i : Int) ∧ B i = true ∧ cnt B i = j) ∨ (r = -1 ∧ cnt B n ≤ j)
theorem Found.unique {B : Nat → Bool} {n j : Nat} {r s : Int} (h : Found B n j r) (g : Found B n j s) : r = s := by
  rcases h with ⟨i, hi, rfl, hb, hc⟩ | ⟨rfl, hc⟩ <;> rcases g with ⟨k, hk, rfl, kb, kc⟩ | ⟨rfl, kc⟩
  · rcases Nat.lt_trichotomy i k with h | h | h
    · have := cnt_lt hb h; omega
    · rw [h]
    · have := cnt_lt kb h; omega
  · have := cnt_lt hb hi; omega
  · have := cnt_lt kb hk; omega
  · rfl

/-- the bits of words in a row -/
def bitOf (Q : Nat → Nat) (i : Nat) : Bool := (Q (i / 64)).testBit (i % 64)
theorem cnt_in (Q : Nat → Nat) (w : Nat) : ∀ k, k ≤ 64 → cnt (bitOf Q) (64 * w + k) = cnt (bitOf Q) (64 * w) + pop k (Q w)
  | 0, _ => by simp [pop]
  | k + 1, h => by
    have e : bitOf Q (64 * w + k) = (Q w).testBit k := by
      rw [bitOf, show (64 * w + k) / 64 = w by omega, show (64 * w + k) % 64 = k by omega]
    have e2 : pop (k + 1) (Q w) = pop k (Q w) + pop 1 (Q w / 2 ^ k) := pop_split k 1 _
    rw [← Nat.add_assoc, cnt, cnt_in Q w k (by omega), e, e2, Nat.testBit_eq_decide_div_mod_eq]
    simp only [pop, Nat.add_zero]
    have : Q w / 2 ^ k % 2 = 0 ∨ Q w / 2 ^ k % 2 = 1 := by omega
    rcases this with h | h <;> simp [h]; omega
theorem cnt_word (Q : Nat → Nat) (w : Nat) : cnt (bitOf Q) (64 * (w + 1)) = cnt (bitOf Q) (64 * w) + pop 64 (Q w) := cnt_in Q w 64 (Nat.le_refl _)
/-- the word in which the j-th bit lies -/
theorem found_in (Q : Nat → Nat) (n w j : Nat) (h0 : cnt (bitOf Q) (64 * w) ≤ j) (h1 : j - cnt (bitOf Q) (64 * w) < pop 64 (Q w)) (hn : ∀ i, n ≤ i → bitOf Q i = false) :
    Found (bitOf Q) n j (64 * (w : Int) + (sel 64 (Q w) (j - cnt (bitOf Q) (64 * w)) : Nat)) := by
  obtain ⟨e1, e2⟩ := sel_testBit 64 (Q w) _ h1
  have e3 := sel_lt 64 (Q w) _ h1
  generalize hs : sel 64 (Q w) (j - cnt (bitOf Q) (64 * w)) = s at *
  have eb : bitOf Q (64 * w + s) = true := by
    rw [bitOf, show (64 * w + s) / 64 = w by omega, show (64 * w + s) % 64 = s by omega]; exact e1
  refine Or.inl ⟨64 * w + s, ?_, by omega, eb, by rw [cnt_in Q w s (by omega)]; omega⟩
  rcases Nat.lt_or_ge (64 * w + s) n with h | h
  · exact h
  · rw [hn _ h] at eb; exact absurd eb (by decide)
theorem cnt_past {B : Nat → Bool} {n : Nat} (hn : ∀ i, n ≤ i → B i = false) : ∀ {m : Nat}, n ≤ m → cnt B m = cnt B n
  | 0, h => by rw [Nat.le_zero.1 h]
  | m + 1, h => by
    by_cases e : n = m + 1
    · rw [e]
    · rw [cnt, cnt_past hn (show n ≤ m by omega), hn m (by omega)]; rfl

/-- how many lie in chunk c, of those below i -/
def inChunk (B : Nat → Bool) (i c : Nat) : Nat := cnt B (min i (2048 * (c + 1))) - cnt B (min i (2048 * c))
theorem inChunk_step (B : Nat → Bool) (i c : Nat) : inChunk B (i + 1) c = inChunk B i c + (if c = i / 2048 then (B i).toNat else 0) := by
  unfold inChunk
  by_cases e : c = i / 2048
  · rw [if_pos e, Nat.min_eq_left (by omega), Nat.min_eq_right (by omega), Nat.min_eq_left (by omega), Nat.min_eq_right (by omega), cnt]
    have := cnt_mono B (show 2048 * c ≤ i by omega)
    omega
  · rw [if_neg e]
    by_cases h : c < i / 2048
    · rw [Nat.min_eq_right (by omega), Nat.min_eq_right (by omega), Nat.min_eq_right (by omega), Nat.min_eq_right (by omega)]; rfl
    · rw [Nat.min_eq_left (by omega), Nat.min_eq_left (by omega), Nat.min_eq_left (by omega), Nat.min_eq_left (by omega)]; simp
theorem inChunk_zero (B : Nat → Bool) (c : Nat) : inChunk B 0 c = 0 := by simp [inChunk]
theorem inChunk_le (B : Nat → Bool) (i c : Nat) : inChunk B i c ≤ i := by
  unfold inChunk
  have := cnt_le B (min i (2048 * (c + 1)))
  omega

end Go.Proofs.YbulkehayDoor
