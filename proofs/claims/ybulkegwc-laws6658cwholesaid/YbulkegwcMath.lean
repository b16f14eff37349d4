import Derived.Laws.BitsAllLaws
import Derived.Laws.BitsLemmas
namespace Go.Proofs.Ybulkegwc

theorem ofInt_i64 (a : Nat) (ha : a < 9223372036854775808) : (BitVec.ofInt 64 (a : Int)).toNat = a := by
  rw [BitVec.ofInt_natCast, BitVec.toNat_ofNat]; exact Nat.mod_eq_of_lt (by omega)
theorem i64_and_nat (a b : Nat) (ha : a < 9223372036854775808) (hb : b < 9223372036854775808) : bits .and .i64 (a : Int) (b : Int) = ((a &&& b : Nat) : Int) := by
  have hx : a &&& b < 2 ^ 63 := Nat.and_lt_two_pow _ (by omega)
  show IntKind.i64.wrap ((BitVec.ofInt 64 (a : Int) &&& BitVec.ofInt 64 (b : Int)).toNat : Int) = _
  rw [BitVec.toNat_and, ofInt_i64 a ha, ofInt_i64 b hb, IntKind.wrap_i64]
  omega
theorem i64_or_nat (a b : Nat) (ha : a < 9223372036854775808) (hb : b < 9223372036854775808) : bits .or .i64 (a : Int) (b : Int) = ((a ||| b : Nat) : Int) := by
  have hx : a ||| b < 2 ^ 63 := Nat.or_lt_two_pow (by omega) (by omega)
  show IntKind.i64.wrap ((BitVec.ofInt 64 (a : Int) ||| BitVec.ofInt 64 (b : Int)).toNat : Int) = _
  rw [BitVec.toNat_or, ofInt_i64 a ha, ofInt_i64 b hb, IntKind.wrap_i64]
  omega
theorem mask31 (x : Int) (h0 : 0 ≤ x) (h1 : x ≤ 9223372036854775807) : bits .and .i64 x 2147483647 = x % 2147483648 := by
  obtain ⟨n, rfl⟩ := Int.eq_ofNat_of_zero_le h0
  have h := i64_and_nat n 2147483647 (by omega) (by omega)
  have e : n &&& 2147483647 = n % 2147483648 := Nat.and_two_pow_sub_one_eq_mod n 31
  rw [e] at h
  simpa using h
theorem mask31u (x : Int) (h0 : 0 ≤ x) (h1 : x ≤ 4294967295) : bits .and .u32 x 2147483647 = x % 2147483648 := by
  obtain ⟨n, rfl⟩ := Int.eq_ofNat_of_zero_le h0
  have h := u32_and_nat n 2147483647 (by omega) (by omega)
  have e : n &&& 2147483647 = n % 2147483648 := Nat.and_two_pow_sub_one_eq_mod n 31
  rw [e] at h
  simpa using h

/-- the pool's state word: s slots, x workers, the closed bit -/
def ST (s x : Int) (c : Bool) : Int := s * 2147483648 + x + (if c then 4611686018427387904 else 0)
theorem ST_bd {s x : Int} {c : Bool} (s0 : 0 ≤ s) (s1 : s ≤ 2147483647) (x0 : 0 ≤ x) (x1 : x ≤ 2147483647) : 0 ≤ ST s x c ∧ ST s x c ≤ 9223372036854775807 := by
  unfold ST; cases c <;> simp <;> omega
theorem ST_w {s x : Int} {c : Bool} (s0 : 0 ≤ s) (s1 : s ≤ 2147483647) (x0 : 0 ≤ x) (x1 : x ≤ 2147483647) : bits .and .i64 (ST s x c) 2147483647 = x := by
  have hb := ST_bd (c := c) s0 s1 x0 x1
  rw [mask31 _ hb.1 hb.2]
  unfold ST; cases c <;> simp <;> omega
theorem ST_s {s x : Int} {c : Bool} (s0 : 0 ≤ s) (s1 : s ≤ 2147483647) (x0 : 0 ≤ x) (x1 : x ≤ 2147483647) : bits .and .i64 (ST s x c / 2147483648) 2147483647 = s := by
  have hb := ST_bd (c := c) s0 s1 x0 x1
  rw [mask31 _ (by omega) (by omega)]
  unfold ST; cases c <;> simp <;> omega
theorem ST_sub (s x j : Int) (c : Bool) : ST s x c - j = ST s (x - j) c := by unfold ST; omega
theorem ST_or {s x : Int} {c : Bool} (s0 : 0 ≤ s) (s1 : s ≤ 2147483647) (x0 : 0 ≤ x) (x1 : x ≤ 2147483647) :
    bits .or .i64 (bits .or .i64 (s * 2147483648) x) (if c then 4611686018427387904 else 0) = ST s x c := by
  obtain ⟨S, rfl⟩ := Int.eq_ofNat_of_zero_le s0
  obtain ⟨X, rfl⟩ := Int.eq_ofNat_of_zero_le x0
  have e1 : bits .or .i64 ((S : Int) * 2147483648) (X : Int) = ((S * 2147483648 + X : Nat) : Int) := by
    have h := i64_or_nat (S * 2147483648) X (by omega) (by omega)
    rw [nat_join 31 (S * 2147483648) X (by omega) (by omega)] at h
    simpa using h
  rw [e1]
  cases c
  · have h := i64_or_nat (S * 2147483648 + X) 0 (by omega) (by omega)
    simp only [Nat.or_zero] at h
    unfold ST
    simp at h ⊢
    exact h
  · have h := i64_or_nat (S * 2147483648 + X) 4611686018427387904 (by omega) (by omega)
    rw [Nat.or_comm, nat_join 62 4611686018427387904 (S * 2147483648 + X) (by omega) (by omega)] at h
    unfold ST
    simp at h ⊢
    omega

end Go.Proofs.Ybulkegwc
