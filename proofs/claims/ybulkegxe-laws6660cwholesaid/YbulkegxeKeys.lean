import Derived.Lib.BitFns
import Derived.Lib.EndianZ
namespace Go.Proofs.Ybulkegxe
open Go

/-- how many leading bits two rows of bytes share -/
def cplN : List Nat → List Nat → Nat
  | x :: a, y :: b => if x = y then 8 + cplN a b else 8 - Lib.bitLen (x ^^^ y)
  | _, _ => 0

def Bytes (x : List Nat) : Prop := ∀ z ∈ x, z < 256
theorem Bytes.tail {z : Nat} {x : List Nat} (h : Bytes (z :: x)) : Bytes x := fun y hy => h y (List.mem_cons_of_mem _ hy)
theorem Bytes.head {z : Nat} {x : List Nat} (h : Bytes (z :: x)) : z < 256 := h z List.mem_cons_self
theorem Bytes.take {x : List Nat} (h : Bytes x) (n : Nat) : Bytes (x.take n) := fun y hy => h y (List.mem_of_mem_take hy)
theorem Bytes.drop {x : List Nat} (h : Bytes x) (n : Nat) : Bytes (x.drop n) := fun y hy => h y (List.mem_of_mem_drop hy)

/-- as the cells hold them -/
def zs (x : List Nat) : List Int := x.map Int.ofNat
theorem zs_length (x : List Nat) : (zs x).length = x.length := by simp [zs]
theorem zs_take (x : List Nat) (n : Nat) : (zs x).take n = zs (x.take n) := by simp [zs]
theorem zs_drop (x : List Nat) (n : Nat) : (zs x).drop n = zs (x.drop n) := by simp [zs]
theorem zs_getD (x : List Nat) (i : Nat) : (zs x).getD i 0 = ((x.getD i 0 : Nat) : Int) := by
  simp only [zs, List.getD_eq_getElem?_getD, List.getElem?_map]
  cases x[i]? <;> rfl

/-- big-endian -/
def beN : List Nat → Nat
  | [] => 0
  | x :: r => x * 256 ^ r.length + beN r
theorem beFromZ_eq : ∀ (x : List Nat) (acc : Nat), Lib.beFromZ (acc : Int) (zs x) = ((acc * 256 ^ x.length + beN x : Nat) : Int)
  | [], acc => by simp [Lib.beFromZ, zs, beN]
  | z :: r, acc => by
    have h := beFromZ_eq r (acc * 256 + z)
    have e : Lib.beFromZ (acc : Int) (zs (z :: r)) = Lib.beFromZ (((acc * 256 + z : Nat) : Int)) (zs r) := by
      simp only [zs, List.map_cons, Lib.beFromZ]
      congr 1
    rw [e, h]
    congr 1
    simp only [beN, List.length_cons, Nat.pow_succ, Nat.add_mul, Nat.mul_assoc, Nat.mul_comm 256]
    omega
theorem beZ_eq (x : List Nat) : Lib.beZ (zs x) = ((beN x : Nat) : Int) := by
  have := beFromZ_eq x 0
  simpa [Lib.beZ] using this
theorem beN_lt : ∀ (x : List Nat), Bytes x → beN x < 256 ^ x.length
  | [], _ => by simp [beN]
  | z :: r, h => by
    have h1 := beN_lt r h.tail
    have h2 := h.head
    have h3 : z * 256 ^ r.length ≤ 255 * 256 ^ r.length := Nat.mul_le_mul_right _ (by omega)
    simp only [beN, List.length_cons, Nat.pow_succ]
    omega

theorem pow256 (k : Nat) : 256 ^ k = 2 ^ (8 * k) := by rw [Nat.pow_mul]
theorem xor_parts (h b M m k : Nat) (hb : b < 2 ^ k) (hm : m < 2 ^ k) : (2 ^ k * h + b) ^^^ (2 ^ k * M + m) = 2 ^ k * (h ^^^ M) + (b ^^^ m) := by
  apply Nat.eq_of_testBit_eq
  intro i
  have hx : b ^^^ m < 2 ^ k := Nat.xor_lt_two_pow hb hm
  rw [Nat.testBit_xor, Nat.testBit_two_pow_mul_add _ hb, Nat.testBit_two_pow_mul_add _ hm, Nat.testBit_two_pow_mul_add _ hx]
  split
  · rw [Nat.testBit_xor]
  · rw [Nat.testBit_xor]
theorem xor_pos {x y : Nat} (h : x ≠ y) : x ^^^ y ≠ 0 := by
  intro e
  apply h
  apply Nat.eq_of_testBit_eq
  intro i
  have : (x ^^^ y).testBit i = false := by rw [e]; simp
  rw [Nat.testBit_xor] at this
  simpa using this

/-- the leading zeros of the words' difference -/
theorem cpl_be : ∀ (a b : List Nat), a.length = b.length → a.length ≤ 8 → Bytes a → Bytes b → 8 * a.length - Lib.bitLen (beN a ^^^ beN b) = cplN a b
  | [], [], _, _, _, _ => by simp [beN, cplN]
  | x :: a, y :: b, hl, h8, ha, hb => by
    have hl' : a.length = b.length := by simpa using hl
    have ih := cpl_be a b hl' (by simp at h8; omega) ha.tail hb.tail
    have la := beN_lt a ha.tail
    have lb := beN_lt b hb.tail
    rw [pow256] at la
    rw [← hl', pow256] at lb
    have hx := ha.head
    have hy := hb.head
    simp only [beN, cplN]
    rw [← hl', pow256, Nat.mul_comm x, Nat.mul_comm y, xor_parts _ _ _ _ _ la lb]
    have hlow : beN a ^^^ beN b < 2 ^ (8 * a.length) := Nat.xor_lt_two_pow la lb
    by_cases e : x = y
    · rw [if_pos e, e, Nat.xor_self, Nat.mul_zero, Nat.zero_add, ← ih]
      have : Lib.bitLen (beN a ^^^ beN b) ≤ 8 * a.length := Lib.bitLen_le _ _ (by simp at h8; omega) hlow
      simp only [List.length_cons]
      omega
    · rw [if_neg e]
      have hne := xor_pos e
      have hlt : x ^^^ y < 2 ^ 8 := Nat.xor_lt_two_pow (by omega) (by omega)
      have h1 : 2 ^ (8 * a.length) ≤ 2 ^ (8 * a.length) * (x ^^^ y) + (beN a ^^^ beN b) := by
        have : 2 ^ (8 * a.length) * 1 ≤ 2 ^ (8 * a.length) * (x ^^^ y) := Nat.mul_le_mul_left _ (by omega)
        omega
      have h2 : 2 ^ (8 * a.length) * (x ^^^ y) + (beN a ^^^ beN b) < 2 ^ 64 := by
        have h3 : 2 ^ (8 * a.length) * (x ^^^ y) + (beN a ^^^ beN b) < 2 ^ (8 * a.length) * 2 ^ 8 := by
          have : 2 ^ (8 * a.length) * ((x ^^^ y) + 1) ≤ 2 ^ (8 * a.length) * 2 ^ 8 := Nat.mul_le_mul_left _ (Nat.succ_le_of_lt hlt)
          rw [Nat.mul_add] at this
          omega
        have h4 : 2 ^ (8 * a.length) * 2 ^ 8 ≤ 2 ^ 64 := by
          rw [← Nat.pow_add]
          exact Nat.pow_le_pow_right (by decide) (by simp at h8; omega)
        omega
      rw [Lib.bitLen_shift _ _ h1 h2, Nat.mul_add_div (Nat.two_pow_pos _), Nat.div_eq_of_lt hlow, Nat.add_zero]
      simp only [List.length_cons]
      omega

theorem cplN_append : ∀ (p a b : List Nat), cplN (p ++ a) (p ++ b) = 8 * p.length + cplN a b
  | [], _, _ => by simp
  | x :: p, a, b => by
    simp only [List.cons_append, cplN, if_pos, cplN_append p a b, List.length_cons]; omega
theorem cplN_more : ∀ (a b c d : List Nat), a.length = b.length → a ≠ b → cplN (a ++ c) (b ++ d) = cplN a b
  | [], [], _, _, _, h => absurd rfl h
  | x :: a, y :: b, c, d, hl, h => by
    simp only [List.cons_append, cplN]
    by_cases e : x = y
    · rw [if_pos e, if_pos e, cplN_more a b c d (by simpa using hl) (fun e2 => h (by rw [e, e2]))]
    · rw [if_neg e, if_neg e]
theorem cplN_self : ∀ (a : List Nat), cplN a a = 8 * a.length
  | [] => rfl
  | x :: a => by simp only [cplN, if_pos, cplN_self a, List.length_cons]; omega
theorem cplN_le : ∀ (a b : List Nat), cplN a b ≤ 8 * a.length
  | [], _ => by simp [cplN]
  | x :: a, [] => by simp [cplN]
  | x :: a, y :: b => by
    have := cplN_le a b
    simp only [cplN, List.length_cons]
    split <;> omega
theorem beN_inj (a b : List Nat) (hl : a.length = b.length) (h8 : a.length ≤ 8) (ha : Bytes a) (hb : Bytes b) (h : beN a = beN b) : a = b := by
  have h1 := cpl_be a b hl h8 ha hb
  rw [h, Nat.xor_self] at h1
  have h2 : cplN a b = 8 * a.length := by rw [← h1]; simp [Lib.bitLen, Lib.bitLenAux]
  clear h h1 h8
  induction a generalizing b with
  | nil => cases b with | nil => rfl | cons y b => simp at hl
  | cons x a ih =>
    cases b with
    | nil => simp at hl
    | cons y b =>
      simp only [cplN, List.length_cons] at h2
      by_cases e : x = y
      · rw [if_pos e] at h2
        rw [e, ih b (by simpa using hl) ha.tail hb.tail (by omega)]
      · rw [if_neg e] at h2
        have h3 : 8 - Lib.bitLen (x ^^^ y) < 8 := by
          have hlt : x ^^^ y < 2 ^ 8 := Nat.xor_lt_two_pow ha.head hb.head
          have : 1 ≤ Lib.bitLen (x ^^^ y) := by
            rw [Lib.bitLen_half _ (xor_pos e) (by omega)]; omega
          omega
        omega
theorem beN_snoc : ∀ (p : List Nat) (z : Nat), beN (p ++ [z]) = beN p * 256 + z
  | [], z => by simp [beN]
  | y :: p, z => by
    have h := beN_snoc p z
    simp only [List.cons_append, beN, h, List.length_append, List.length_cons, List.length_nil, Nat.pow_succ, Nat.zero_add, Nat.add_mul, Nat.mul_assoc]
    omega
theorem take_snoc (x : List Nat) (i : Nat) (h : i < x.length) : x.take (i + 1) = x.take i ++ [x.getD i 0] := by
  rw [List.take_add_one, List.getD_eq_getElem?_getD, List.getElem?_eq_getElem h]; rfl
theorem split_at (x : List Nat) (m : Nat) (h : m < x.length) : x = x.take m ++ (x.getD m 0 :: x.drop (m + 1)) := by
  have e : x.getD m 0 = x[m] := by rw [List.getD_eq_getElem?_getD, List.getElem?_eq_getElem h]; rfl
  rw [e, List.getElem_cons_drop, List.take_append_drop]
theorem byte_getD {x : List Nat} (h : Bytes x) (i : Nat) : x.getD i 0 < 256 := by
  rw [List.getD_eq_getElem?_getD]
  by_cases hi : i < x.length
  · rw [List.getElem?_eq_getElem hi]; exact h _ (List.getElem_mem hi)
  · rw [List.getElem?_eq_none (by omega)]; decide

/-! ### eight bytes at a time -/
def ch (x : List Nat) (k : Nat) : List Nat := (x.drop (8 * k)).take 8
theorem ch_len (x : List Nat) (h : x.length = 32) (k : Nat) (hk : k < 4) : (ch x k).length = 8 := by
  unfold ch; rw [List.length_take, List.length_drop, h]; omega
theorem ch_bytes {x : List Nat} (h : Bytes x) (k : Nat) : Bytes (ch x k) := (h.drop _).take _
theorem take_ch (x : List Nat) (k : Nat) : x.take (8 * (k + 1)) = x.take (8 * k) ++ ch x k := by
  unfold ch
  rw [Nat.mul_succ, List.take_add]
theorem ch_split (x : List Nat) (k : Nat) : x = x.take (8 * k) ++ (ch x k ++ x.drop (8 * (k + 1))) := by
  have h1 := take_ch x k
  rw [← List.append_assoc, ← h1, List.take_append_drop]
theorem take_all (x : List Nat) (h : x.length = 32) : x.take (8 * 4) = x := List.take_of_length_le (by omega)
theorem same_ch (x y : List Nat) (hx : x.length = 32) (hy : y.length = 32) (h : ∀ k, k < 4 → ch x k = ch y k) : x = y := by
  have e : ∀ k, k ≤ 4 → x.take (8 * k) = y.take (8 * k) := by
    intro k
    induction k with
    | zero => intro _; simp
    | succ k ih => intro hk; rw [take_ch, take_ch, ih (by omega), h k (by omega)]
  rw [← take_all x hx, ← take_all y hy]; exact e 4 (Nat.le_refl _)
theorem ch_zero (x : List Nat) : ch x 0 = x.take 8 := by simp [ch]

/-- little-endian -/
def leN : List Nat → Nat
  | [] => 0
  | x :: r => x + 256 * leN r
theorem leZ_eq : ∀ (x : List Nat), Lib.leZ (zs x) = ((leN x : Nat) : Int)
  | [] => rfl
  | z :: r => by
    have h := leZ_eq r
    simp only [zs, List.map_cons, Lib.leZ, leN] at h ⊢
    rw [h]; simp
theorem leN_inj : ∀ (a b : List Nat), a.length = b.length → Bytes a → Bytes b → leN a = leN b → a = b
  | [], [], _, _, _, _ => rfl
  | x :: a, y :: b, hl, ha, hb, h => by
    have h1 := ha.head
    have h2 := hb.head
    simp only [leN] at h
    have e : x = y := by omega
    rw [e, leN_inj a b (by simpa using hl) ha.tail hb.tail (by omega)]

/-- the first eight bytes in which two keys part -/
theorem cpl_ch (x y : List Nat) (hx : x.length = 32) (hy : y.length = 32) (bx : Bytes x) (by' : Bytes y) (k : Nat) (hk : k < 4) (hp : x.take (8 * k) = y.take (8 * k)) (hne : beN (ch x k) ≠ beN (ch y k)) :
    cplN x y = 64 * k + (64 - Lib.bitLen (beN (ch x k) ^^^ beN (ch y k))) := by
  have hl := ch_len x hx k hk
  have hl2 := ch_len y hy k hk
  have h1 := cpl_be (ch x k) (ch y k) (by rw [hl, hl2]) (by omega) (ch_bytes bx k) (ch_bytes by' k)
  rw [hl] at h1
  have e : cplN x y = cplN (y.take (8 * k) ++ (ch x k ++ x.drop (8 * (k + 1)))) (y.take (8 * k) ++ (ch y k ++ y.drop (8 * (k + 1)))) := by
    rw [← ch_split y k, ← hp, ← ch_split x k]
  rw [e, cplN_append, cplN_more _ _ _ _ (by rw [hl, hl2]) (fun e2 => hne (by rw [e2])), ← h1, List.length_take, hy]
  omega
end Go.Proofs.Ybulkegxe
