import Derived.Test.YbulkehayDoorBits
namespace Go.Proofs.YbulkehayDoor
open Go.RowKit

theorem and_mask (d x : Nat) (hx : x < 18446744073709551616) (hd : 2 ^ d ≤ 18446744073709551616) : bits .and .u64 (x : Int) ((2 ^ d - 1 : Nat) : Int) = ((x % 2 ^ d : Nat) : Int) := by
  have := Nat.two_pow_pos d
  rw [bits_and_u64_nat _ _ hx (by omega), Nat.and_two_pow_sub_one_eq_mod]

theorem shr_at (d x : Nat) (hd : d ≤ 64) : (x : Int).fdiv (2 ^ min (Int.toNat (d : Int)) IntKind.u64.bits) = ((x / 2 ^ d : Nat) : Int) := by
  rw [Int.toNat_natCast, show IntKind.u64.bits = 64 from rfl, Nat.min_eq_left hd, Int.fdiv_eq_ediv_of_nonneg _ (Int.le_of_lt (Int.pow_pos (by decide)))]
  rw [Int.natCast_ediv, Int.natCast_pow]; rfl

/-- what the halving keeps -/
def Half (X J : Nat) (d : Nat) (x j at' : Nat) : Prop := x < 2 ^ d ∧ j < pop d x ∧ at' + sel d x j = sel 64 X J ∧ at' + d ≤ 64

theorem Half.lo {X J d x j a : Nat} (h : Half X J (d + d) x j a) (hj : j < pop d (x % 2 ^ d)) : Half X J d (x % 2 ^ d) j a := by
  rw [pop_mod] at hj
  refine ⟨Nat.mod_lt _ (Nat.two_pow_pos d), by rw [pop_mod]; exact hj, ?_, by have := h.2.2.2; omega⟩
  rw [sel_mod, ← sel_lo d d x j hj]; exact h.2.2.1
theorem Half.hi {X J d x j a : Nat} (h : Half X J (d + d) x j a) (hj : pop d (x % 2 ^ d) ≤ j) : Half X J d (x / 2 ^ d) (j - pop d (x % 2 ^ d)) (a + d) := by
  rw [pop_mod] at hj ⊢
  obtain ⟨h1, h2, h3, h4⟩ := h
  rw [pop_split] at h2
  refine ⟨?_, by omega, ?_, by omega⟩
  · rw [Nat.div_lt_iff_lt_mul (Nat.two_pow_pos d), ← Nat.pow_add]; exact h1
  · rw [sel_hi d d x j hj] at h3; omega

set_option maxRecDepth 100000 in
set_option maxHeartbeats 1600000 in
theorem setBit_any (X J : Nat) (hX : X < 18446744073709551616) (hJ : J < pop 64 X) (w : World) (ht : Tab w) :
    Calls Ybad.prog 18 #[.int .u64 (X : Int), .int .i64 (J : Int)] w fun e w' => e = .returned (.int .i64 (sel 64 X J : Nat)) ∧ w' = w := by
  have hJ2 := pop_le 64 X
  go_enter Ybad.func18, Ybad.ntmps18
  go_wp2
  go_loop [0, 1, 5, 6] (fun x j a d => ∃ (x' j' a' : Nat), x = .int .u64 (x' : Int) ∧ j = .int .i64 (j' : Int) ∧ a = .int .i64 (a' : Int) ∧ ((d = .int .i64 32 ∧ Half X J 64 x' j' a') ∨ (d = .int .i64 16 ∧ Half X J 32 x' j' a') ∨ (d = .int .i64 8 ∧ Half X J 16 x' j' a') ∨ (d = .int .i64 4 ∧ Half X J 8 x' j' a')))
    (fun _ _ _ d => (intOf d).toNat)
  case atStart => exact ⟨X, J, 0, rfl, rfl, rfl, Or.inl ⟨rfl, hX, hJ, by simp, by decide⟩⟩
  case round =>
    obtain ⟨x, j, a, rfl, rfl, rfl, h⟩ := hrel
    rcases h with ⟨rfl, h⟩ | ⟨rfl, h⟩ | ⟨rfl, h⟩ | ⟨rfl, h⟩
    · have hm : bits .and .u64 (x : Int) 4294967295 = ((x % 4294967296 : Nat) : Int) := and_mask 32 x (by have := h.1; omega) (by decide)
      have hl : x % 4294967296 < 4294967296 := Nat.mod_lt _ (by decide)
      have hlo := h.lo (d := 32)
      have hhi := h.hi (d := 32)
      have hp : pop 64 (x % 4294967296) = pop 32 (x % 4294967296) := pop_more 32 32 _ hl
      have hx64 : x < 18446744073709551616 := by have := h.1; omega
      have hd : (x : Int).fdiv (2 ^ min (Int.toNat 32) IntKind.u64.bits) = ((x / 4294967296 : Nat) : Int) := shr_at 32 x (by decide)
      have hO := ones_any (x % 4294967296) (by omega)
      have hpl := pop_le 32 (x % 4294967296)
      have ha := h.2.2.2
      have hjl : j < 64 := by have := h.2.1; have := pop_le 64 x; omega
      rw [hp] at hO
      simp only [show (2 : Nat) ^ 32 = 4294967296 from rfl] at hlo hhi
      generalize x % 4294967296 = l at *
      generalize hq : pop 32 l = q at *
      by_cases hj : q ≤ j
      · replace hhi := hhi hj
        have hsub : (j : Int) - (q : Int) = ((j - q : Nat) : Int) := by omega
        clear hlo hp hq h
        go_wp2_with (go_at_call 17; refine (hO _).mono ?_; rintro e w' ⟨rfl, rfl⟩)
        go_round
        case rel => exact ⟨_, _, a + 32, rfl, rfl, by go_num, by first | exact Or.inr (Or.inl ⟨rfl, hhi⟩) | exact Or.inr (Or.inr (Or.inl ⟨rfl, hhi⟩)) | exact Or.inr (Or.inr (Or.inr ⟨rfl, hhi⟩))⟩
        case measure => simp [intOf]
      · replace hlo := hlo (by omega)
        clear hhi hp hq h
        go_wp2_with (go_at_call 17; refine (hO _).mono ?_; rintro e w' ⟨rfl, rfl⟩)
        go_round
        case rel => exact ⟨_, _, a, rfl, rfl, rfl, by first | exact Or.inr (Or.inl ⟨rfl, hlo⟩) | exact Or.inr (Or.inr (Or.inl ⟨rfl, hlo⟩)) | exact Or.inr (Or.inr (Or.inr ⟨rfl, hlo⟩))⟩
        case measure => simp [intOf]
    · have hm : bits .and .u64 (x : Int) 65535 = ((x % 65536 : Nat) : Int) := and_mask 16 x (by have := h.1; omega) (by decide)
      have hl : x % 65536 < 65536 := Nat.mod_lt _ (by decide)
      have hlo := h.lo (d := 16)
      have hhi := h.hi (d := 16)
      have hp : pop 64 (x % 65536) = pop 16 (x % 65536) := pop_more 16 48 _ hl
      have hx64 : x < 18446744073709551616 := by have := h.1; omega
      have hd : (x : Int).fdiv (2 ^ min (Int.toNat 16) IntKind.u64.bits) = ((x / 65536 : Nat) : Int) := shr_at 16 x (by decide)
      have hO := ones_any (x % 65536) (by omega)
      have hpl := pop_le 16 (x % 65536)
      have ha := h.2.2.2
      have hjl : j < 64 := by have := h.2.1; have := pop_le 32 x; omega
      rw [hp] at hO
      simp only [show (2 : Nat) ^ 16 = 65536 from rfl] at hlo hhi
      generalize x % 65536 = l at *
      generalize hq : pop 16 l = q at *
      by_cases hj : q ≤ j
      · replace hhi := hhi hj
        have hsub : (j : Int) - (q : Int) = ((j - q : Nat) : Int) := by omega
        clear hlo hp hq h
        go_wp2_with (go_at_call 17; refine (hO _).mono ?_; rintro e w' ⟨rfl, rfl⟩)
        go_round
        case rel => exact ⟨_, _, a + 16, rfl, rfl, by go_num, by first | exact Or.inr (Or.inl ⟨rfl, hhi⟩) | exact Or.inr (Or.inr (Or.inl ⟨rfl, hhi⟩)) | exact Or.inr (Or.inr (Or.inr ⟨rfl, hhi⟩))⟩
        case measure => simp [intOf]
      · replace hlo := hlo (by omega)
        clear hhi hp hq h
        go_wp2_with (go_at_call 17; refine (hO _).mono ?_; rintro e w' ⟨rfl, rfl⟩)
        go_round
        case rel => exact ⟨_, _, a, rfl, rfl, rfl, by first | exact Or.inr (Or.inl ⟨rfl, hlo⟩) | exact Or.inr (Or.inr (Or.inl ⟨rfl, hlo⟩)) | exact Or.inr (Or.inr (Or.inr ⟨rfl, hlo⟩))⟩
        case measure => simp [intOf]
    · have hm : bits .and .u64 (x : Int) 255 = ((x % 256 : Nat) : Int) := and_mask 8 x (by have := h.1; omega) (by decide)
      have hl : x % 256 < 256 := Nat.mod_lt _ (by decide)
      have hlo := h.lo (d := 8)
      have hhi := h.hi (d := 8)
      have hp : pop 64 (x % 256) = pop 8 (x % 256) := pop_more 8 56 _ hl
      have hx64 : x < 18446744073709551616 := by have := h.1; omega
      have hd : (x : Int).fdiv (2 ^ min (Int.toNat 8) IntKind.u64.bits) = ((x / 256 : Nat) : Int) := shr_at 8 x (by decide)
      have hO := ones_any (x % 256) (by omega)
      have hpl := pop_le 8 (x % 256)
      have ha := h.2.2.2
      have hjl : j < 64 := by have := h.2.1; have := pop_le 16 x; omega
      rw [hp] at hO
      simp only [show (2 : Nat) ^ 8 = 256 from rfl] at hlo hhi
      generalize x % 256 = l at *
      generalize hq : pop 8 l = q at *
      by_cases hj : q ≤ j
      · replace hhi := hhi hj
        have hsub : (j : Int) - (q : Int) = ((j - q : Nat) : Int) := by omega
        clear hlo hp hq h
        go_wp2_with (go_at_call 17; refine (hO _).mono ?_; rintro e w' ⟨rfl, rfl⟩)
        go_round
        case rel => exact ⟨_, _, a + 8, rfl, rfl, by go_num, by first | exact Or.inr (Or.inl ⟨rfl, hhi⟩) | exact Or.inr (Or.inr (Or.inl ⟨rfl, hhi⟩)) | exact Or.inr (Or.inr (Or.inr ⟨rfl, hhi⟩))⟩
        case measure => simp [intOf]
      · replace hlo := hlo (by omega)
        clear hhi hp hq h
        go_wp2_with (go_at_call 17; refine (hO _).mono ?_; rintro e w' ⟨rfl, rfl⟩)
        go_round
        case rel => exact ⟨_, _, a, rfl, rfl, rfl, by first | exact Or.inr (Or.inl ⟨rfl, hlo⟩) | exact Or.inr (Or.inr (Or.inl ⟨rfl, hlo⟩)) | exact Or.inr (Or.inr (Or.inr ⟨rfl, hlo⟩))⟩
        case measure => simp [intOf]
    · obtain ⟨h1, h2, h3, h4⟩ := h
      have hj8 := pop_le 8 x
      go_wp2
      go_loop [0, 1] (fun y i => ∃ (y' i' : Nat), y = .int .u64 (y' : Int) ∧ i = .int .i64 (i' : Int) ∧ y' < 256 ∧ i' < pop 8 y' ∧ a + sel 8 y' i' = sel 64 X J)
        (fun _ i => (intOf i).toNat)
      case atStart => exact ⟨x, j, rfl, rfl, h1, h2, h3⟩
      case round =>
        obtain ⟨y, i, rfl, rfl, g1, g2, g3⟩ := hrel
        clear h1 h2 h3 hj8 hJ
        have hi8 := pop_le 8 y
        rcases i with _ | i
        · have hy : 0 < y := by
            rcases Nat.eq_zero_or_pos y with e | e
            · rw [e] at g2; exact absurd g2 (by decide)
            · exact e
          have hz := tz_any y hy g1 w ht
          have hs := sel_lt 8 y 0 g2
          generalize sel 8 y 0 = s at *
          have HG : Hid (a + s = sel 64 X J) := g3
          clear g3 g2
          go_wp2_with (go_at_call 19; refine hz.mono ?_; rintro e w' ⟨rfl, rfl⟩)
          go_ret
          exact ⟨by rw [← HG.out]; simp, rfl⟩
        · obtain ⟨s1, s2, s3⟩ := strike8 y g1 i g2
          have hy : 0 < y := by
            rcases Nat.eq_zero_or_pos y with e | e
            · rw [e, pop_zero] at g2; omega
            · exact e
          have hst : bits .and .u64 (y : Int) ((y : Int) - 1) = ((strike y : Nat) : Int) := by
            rw [show (y : Int) - 1 = ((y - 1 : Nat) : Int) by omega, bits_and_u64_nat _ _ (by omega) (by omega)]; rfl
          rw [s1] at g3
          generalize strike y = z at *
          have hiB : i < 8 := by omega
          clear s1 g2
          go_wp2
          go_round
          case rel => exact ⟨z, i, rfl, by go_num, s3, s2, g3⟩
          case measure => simp [intOf]
end Go.Proofs.YbulkehayDoor
