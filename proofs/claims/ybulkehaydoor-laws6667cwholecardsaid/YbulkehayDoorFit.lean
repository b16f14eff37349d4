import Derived.Test.YbulkehayDoorCount
namespace Go.Proofs.YbulkehayDoor
open Go.RowKit

/-! ### the counts agree with the bits -/
theorem cnt_split (B C : Nat → Bool) : ∀ m, cnt B m = cnt (fun i => B i && C i) m + cnt (fun i => B i && !C i) m
  | 0 => rfl
  | m + 1 => by
    have h := cnt_split B C m
    simp only [cnt, h]
    cases B m <;> cases C m <;> simp <;> omega

theorem fit_bit (P M : Nat → Nat) (hM : ∀ i, M i < 18446744073709551616) (marked : Bool) (i : Nat) : bitOf (fitWord P M marked) i = (bitOf P i && (bitOf M i == marked)) := by
  unfold bitOf fitWord
  cases marked with
  | true => simp [Nat.testBit_and]
  | false =>
    have e : 18446744073709551615 - M (i / 64) = 2 ^ 64 - (M (i / 64) + 1) := by have := hM (i / 64); omega
    have hlt : i % 64 < 64 := Nat.mod_lt _ (by decide)
    rw [cond_false, Nat.testBit_and, e, Nat.testBit_two_pow_sub_succ (hM _)]
    simp [hlt]

theorem fit_fn (P M : Nat → Nat) (hM : ∀ i, M i < 18446744073709551616) (marked : Bool) : bitOf (fitWord P M marked) = fun i => bitOf P i && (bitOf M i == marked) := funext (fit_bit P M hM marked)

theorem cnt_min {B : Nat → Bool} {n : Nat} (hn : ∀ i, n ≤ i → B i = false) (m : Nat) : cnt B (min n m) = cnt B m := by
  by_cases h : m ≤ n
  · rw [Nat.min_eq_right h]
  · rw [Nat.min_eq_left (by omega)]; exact (cnt_past hn (by omega)).symm

/-- the chunk's counts -/
theorem fit_chunk (B C : Nat → Bool) (n : Nat) (hn : ∀ i, n ≤ i → B i = false) (marked : Bool) (c : Nat) :
    cnt (fun i => B i && (C i == marked)) (2048 * c) + (bif marked then inChunk (fun i => B i && C i) n c else inChunk B n c - inChunk (fun i => B i && C i) n c) = cnt (fun i => B i && (C i == marked)) (2048 * (c + 1)) := by
  have h1 : ∀ i, n ≤ i → (B i && C i) = false := fun i hi => by simp [hn i hi]
  unfold inChunk
  rw [cnt_min hn, cnt_min hn, cnt_min h1, cnt_min h1]
  have a := cnt_split B C (2048 * c)
  have b := cnt_split B C (2048 * (c + 1))
  have m0 := cnt_mono (fun i => B i && C i) (show 2048 * c ≤ 2048 * (c + 1) by omega)
  have m1 := cnt_mono (fun i => B i && !C i) (show 2048 * c ≤ 2048 * (c + 1) by omega)
  cases marked with
  | true =>
    have e : (fun i => B i && (C i == true)) = fun i => B i && C i := by funext i; cases C i <;> rfl
    rw [e, cond_true]; omega
  | false =>
    have e : (fun i => B i && (C i == false)) = fun i => B i && !C i := by funext i; cases C i <;> rfl
    rw [e, cond_false]; omega

theorem inChunk_sub (B C : Nat → Bool) (n c : Nat) : inChunk (fun i => B i && C i) n c ≤ inChunk B n c := by
  unfold inChunk
  have a := cnt_split B C (min n (2048 * c))
  have b := cnt_split B C (min n (2048 * (c + 1)))
  have h : min n (2048 * c) ≤ min n (2048 * (c + 1)) := by omega
  have m0 := cnt_mono (fun i => B i && C i) h
  have m1 := cnt_mono (fun i => B i && !C i) h
  omega

theorem cnt_none {B : Nat → Bool} (h : ∀ i, B i = false) : ∀ m, cnt B m = 0
  | 0 => rfl
  | m + 1 => by rw [cnt, cnt_none h m, h m]; rfl
theorem inChunk_none {B : Nat → Bool} (h : ∀ i, B i = false) (n c : Nat) : inChunk B n c = 0 := by
  unfold inChunk; rw [cnt_none h, cnt_none h]

/-- words without a bit past n -/
theorem words_past (z : List Int) (n i : Nat) (h : n ≤ i) : bitOf (fun j => wordOf z j n) i = false := by
  unfold bitOf
  by_cases hk : 64 * (i / 64) ≤ n
  · exact wordOf_past z (i / 64) n (i % 64) (by omega) hk (Nat.mod_lt _ (by decide))
  · show (wordOf z (i / 64) n).testBit (i % 64) = false
    unfold wordOf
    split
    · simp
    · rw [if_pos (by omega), show n - 64 * (i / 64) = 0 by omega, Nat.pow_zero, Nat.mod_one]; simp

/-- the words of which the short marks stand clear -/
theorem andNot_clear (x y i : Nat) (hy : y < 18446744073709551616) : (y.testBit i && (x &&& (18446744073709551615 - y)).testBit i) = false := by
  have e : 18446744073709551615 - y = 2 ^ 64 - (y + 1) := by omega
  rw [Nat.testBit_and, e, Nat.testBit_two_pow_sub_succ hy]
  cases y.testBit i <;> simp
end Go.Proofs.YbulkehayDoor
