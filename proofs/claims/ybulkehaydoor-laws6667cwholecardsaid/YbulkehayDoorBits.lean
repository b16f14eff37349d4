import Derived.Test.YbulkehayDoorRows
import Derived.Test.YbulkehayDoorMath
import Derived.WalkKit
import Derived.WalkSpells
import Derived.WalkLawsBesides
import Derived.BigQuiet
import Derived.Deep.QuietTactic
import Derived.Deep.RegionWith
import Derived.Laws.Bits64b
namespace Go.Proofs.YbulkehayDoor
open Go.RowKit

theorem bits_and_i64_nat (a b : Nat) (ha : a < 9223372036854775808) :
    bits .and .i64 (a : Int) (b : Int) = ((a &&& b % 18446744073709551616 : Nat) : Int) := by
  have h1 : (BitVec.ofInt 64 (a : Int)).toNat = a := by
    rw [BitVec.ofInt_natCast, BitVec.toNat_ofNat]; exact Nat.mod_eq_of_lt (by omega)
  have h2 : (BitVec.ofInt 64 (b : Int)).toNat = b % 18446744073709551616 := by
    rw [BitVec.ofInt_natCast, BitVec.toNat_ofNat]
  show IntKind.i64.wrap ((BitVec.ofInt 64 (a : Int) &&& BitVec.ofInt 64 (b : Int)).toNat : Int) = _
  rw [BitVec.toNat_and, h1, h2]
  have hx : a &&& b % 18446744073709551616 ≤ a := Nat.and_le_left
  generalize a &&& b % 18446744073709551616 = c at *
  simp [IntKind.wrap, IntKind.bits, IntKind.signed]; omega
theorem bits_andNot_u64_nat (a b : Nat) (ha : a < 18446744073709551616) (hb : b < 18446744073709551616) :
    bits .andNot .u64 (a : Int) (b : Int) = ((a &&& (18446744073709551615 - b) : Nat) : Int) := by
  have hx : a &&& (18446744073709551615 - b) ≤ a := Nat.and_le_left
  have h1 : (BitVec.ofInt 64 (a : Int)).toNat = a := by
    rw [BitVec.ofInt_natCast, BitVec.toNat_ofNat]; exact Nat.mod_eq_of_lt (by omega)
  have h2 : (BitVec.ofInt 64 (b : Int)).toNat = b := by
    rw [BitVec.ofInt_natCast, BitVec.toNat_ofNat]; exact Nat.mod_eq_of_lt (by omega)
  show IntKind.u64.wrap ((BitVec.ofInt 64 (a : Int) &&& ~~~ BitVec.ofInt 64 (b : Int)).toNat : Int) = _
  rw [BitVec.toNat_and, BitVec.toNat_not, h1, h2, IntKind.wrap_u64]
  have e : 2 ^ 64 - 1 - b = 18446744073709551615 - b := rfl
  rw [e]; omega

set_option maxHeartbeats 400000 in
theorem ones_any (x : Nat) (hx : x < 18446744073709551616) (w : World) :
    Calls Ybad.prog 17 #[.int .u64 (x : Int)] w fun e w' => e = .returned (.int .i64 (pop 64 x : Nat)) ∧ w' = w := by
  have k1 : IntKind.u64.wrap (bits .and .u64 ((x : Int) / 2) 6148914691236517205 + bits .and .u64 (x : Int) 6148914691236517205) = ((F1 8 x : Nat) : Int) := by
    have e : ((x : Int) / 2) = ((x / 2 : Nat) : Int) := by omega
    rw [e, show (6148914691236517205 : Int) = ((6148914691236517205 : Nat) : Int) from rfl, bits_and_u64_nat _ _ (by omega) (by decide), bits_and_u64_nat _ _ hx (by decide), IntKind.wrap_u64]
    have h1 := F1_lt x
    have e2 : m55 8 = 6148914691236517205 := by decide +kernel
    rw [F1, e2] at h1 ⊢; omega
  have h1 := F1_lt x
  have hf : Fall 8 x = F3 8 (F2 8 (F1 8 x)) := rfl
  generalize F1 8 x = y at *
  have k2 : IntKind.u64.wrap (bits .and .u64 ((y : Int) / 4) 3689348814741910323 + bits .and .u64 (y : Int) 3689348814741910323) = ((F2 8 y : Nat) : Int) := by
    have e : ((y : Int) / 4) = ((y / 4 : Nat) : Int) := by omega
    rw [e, show (3689348814741910323 : Int) = ((3689348814741910323 : Nat) : Int) from rfl, bits_and_u64_nat _ _ (by omega) (by decide), bits_and_u64_nat _ _ h1 (by decide), IntKind.wrap_u64]
    have h1 := F2_lt y
    have e2 : m33 8 = 3689348814741910323 := by decide +kernel
    rw [F2, e2] at h1 ⊢; omega
  have h2 := F2_le y
  generalize F2 8 y = z at *
  have k3 : bits .and .u64 (IntKind.u64.wrap ((z : Int) / 16 + (z : Int))) 1085102592571150095 = ((Fall 8 x : Nat) : Int) := by
    have e : IntKind.u64.wrap ((z : Int) / 16 + (z : Int)) = ((z / 16 + z : Nat) : Int) := by rw [IntKind.wrap_u64]; omega
    rw [e, show (1085102592571150095 : Int) = ((1085102592571150095 : Nat) : Int) from rfl, bits_and_u64_nat _ _ (by omega) (by decide), hf, F3]
    have e2 : m0f 8 = 1085102592571150095 := by decide +kernel
    rw [e2]
  have h3 : Fall 8 x ≤ 1085102592571150095 := by
    rw [hf, F3]
    have e2 : m0f 8 = 1085102592571150095 := by decide +kernel
    have := @Nat.and_le_right (z / 16 + z) (m0f 8)
    omega
  have ho := ones64 x
  generalize Fall 8 x = f at *
  have k4 : IntKind.u64.wrap ((f : Int) + (f : Int) / 256) = ((f + f / 256 : Nat) : Int) := by rw [IntKind.wrap_u64]; omega
  have h4 : f + f / 256 ≤ 1090000000000000000 := by omega
  generalize f + f / 256 = g at *
  have k5 : IntKind.u64.wrap ((g : Int) + (g : Int) / 65536) = ((g + g / 65536 : Nat) : Int) := by rw [IntKind.wrap_u64]; omega
  have h5 : g + g / 65536 ≤ 1091000000000000000 := by omega
  generalize g + g / 65536 = h at *
  have k6 : IntKind.u64.wrap ((h : Int) + (h : Int) / 4294967296) = ((h + h / 4294967296 : Nat) : Int) := by rw [IntKind.wrap_u64]; omega
  have h6 : h + h / 4294967296 ≤ 9223372036854775807 := by omega
  generalize h + h / 4294967296 = v at *
  have k7 : bits .and .i64 (v : Int) 127 = ((pop 64 x : Nat) : Int) := by
    rw [← ho, show (127 : Int) = ((127 : Nat) : Int) from rfl, bits_and_i64_nat _ _ (by omega), show (127 % 18446744073709551616 : Nat) = 2 ^ 7 - 1 from rfl, Nat.and_two_pow_sub_one_eq_mod _ 7]
  clear hf ho hx h1 h2 h3 h4 h5
  go_enter Ybad.func17, Ybad.ntmps17
  go_wp2
  go_ret
  exact ⟨rfl, rfl⟩

theorem Ybad.info83 : (Ybad.prog.info? 83).map (fun i => (i.size, i.bytes)) = some (64, 64) := by kernel_rfl
def tabz : List Nat := [0, 1, 56, 2, 57, 49, 28, 3, 61, 58, 42, 50, 38, 29, 17, 4, 62, 47, 59, 36, 45, 43, 51, 22, 53, 39, 33, 30, 24, 18, 12, 5, 63, 55, 48, 27, 60, 41, 37, 16, 46, 35, 44, 21, 52, 32, 23, 11, 54, 26, 40, 15, 34, 20, 31, 10, 25, 14, 19, 9, 13, 8, 7, 6]
def tzIdx (x : Nat) : Nat := (x &&& (18446744073709551616 - x)) * 285870213051353865 % 18446744073709551616 / 288230376151711744
theorem tz8 (x : Nat) (h0 : 0 < x) (hx : x < 256) : tzIdx x < 64 ∧ tabz[tzIdx x]? = some (sel 8 x 0) := 
  (by decide +kernel : ∀ x : Fin 256, 0 < x.1 → tzIdx x.1 < 64 ∧ tabz[tzIdx x.1]? = some (sel 8 x.1 0)) ⟨x, hx⟩ h0

theorem pop_pos (x : Nat) (h0 : 0 < x) (hx : x < 256) : 0 < pop 8 x :=
  (by decide +kernel : ∀ x : Fin 256, 0 < x.1 → 0 < pop 8 x.1) ⟨x, hx⟩ h0

/-- the table lies in the variable's block -/
def Tab (w : World) : Prop := ∀ (j v : Nat), tabz[j]? = some v → w.cell? ⟨0, j, none⟩ = some (.int .u8 v)

set_option maxHeartbeats 1000000 in
theorem tz_core (x k idx : Nat) (w : World) (hx0 : ((x : Int) == 0) = false)
    (key : IntKind.u64.wrap (bits BinOp.and IntKind.u64 (x : Int) (IntKind.u64.wrap (-(x : Int))) * 285870213051353865) / 288230376151711744 = (idx : Int))
    (hi : idx < 64) (hk : k < 64) (hcell : w.cell? ⟨0, idx, none⟩ = some (.int .u8 k)) :
    Calls Ybad.prog 19 #[.int .u64 x] w fun e w' => e = .returned (.int .i64 k) ∧ w' = w := by
  go_enter Ybad.func19, Ybad.ntmps19
  go_wp2_with (simp only [key])
  go_ret
  exact ⟨rfl, rfl⟩

theorem tz_key (x : Nat) (h0 : 0 < x) (hx : x < 256) : IntKind.u64.wrap (bits .and .u64 (x : Int) (IntKind.u64.wrap (-(x : Int))) * 285870213051353865) / 288230376151711744 = ((tzIdx x : Nat) : Int) := by
  have e1 : IntKind.u64.wrap (-(x : Int)) = ((18446744073709551616 - x : Nat) : Int) := by rw [IntKind.wrap_u64]; omega
  rw [e1, bits_and_u64_nat _ _ (by omega) (by omega), IntKind.wrap_u64, tzIdx]
  generalize x &&& (18446744073709551616 - x) = q
  omega

theorem tz_any (x : Nat) (h0 : 0 < x) (hx : x < 256) (w : World) (ht : Tab w) :
    Calls Ybad.prog 19 #[.int .u64 (x : Int)] w fun e w' => e = .returned (.int .i64 (sel 8 x 0 : Nat)) ∧ w' = w := by
  obtain ⟨hi, hv⟩ := tz8 x h0 hx
  have hs := sel_lt 8 x 0 (pop_pos x h0 hx)
  exact tz_core x _ _ w (by simp; omega) (tz_key x h0 hx) hi (by omega) (ht _ _ hv)
end Go.Proofs.YbulkehayDoor
