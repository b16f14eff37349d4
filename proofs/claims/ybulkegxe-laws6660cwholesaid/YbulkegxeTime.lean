import Derived.Test.YbulkegxeWords
import Derived.Deep.DeepCutAuto
import Derived.Deep.CutBlock
namespace Go.Proofs.Ybulkegxe
open Go.RowKit

/-- a time without a monotonic reading -/
def timeV (wl : Nat) (ex : Int) : Value := .agg #[.int .u64 (wl : Int), .int .i64 ex, .pointer none]

set_option maxRecDepth 100000 in
set_option maxHeartbeats 800000 in
theorem nsec_any (g wl : Nat) (w : World) (h : wl < 1073741824) (hc : w.cell? ⟨g, 0, none⟩ = some (.int .u64 (wl : Int))) :
    Calls Yba.prog 12 #[.pointer (some ⟨g, 0, none⟩)] w fun e w' => e = .returned (.int .i32 (wl : Int)) ∧ w' = w := by
  have hb := bits_and_u64_nat wl 1073741823 (by omega) (by omega)
  rw [show wl &&& 1073741823 = wl by rw [Nat.and_two_pow_sub_one_eq_mod wl 30]; omega] at hb
  simp only [show ((1073741823 : Nat) : Int) = 1073741823 from rfl] at hb
  go_enter Yba.func12, Yba.ntmps12
  go_wp2
  go_ret
  exact ⟨rfl, rfl⟩

theorem bits_mono_zero (wl : Nat) (h : wl < 1073741824) : bits .and .u64 (wl : Int) 9223372036854775808 = 0 := by
  have hb := bits_and_u64_nat wl 9223372036854775808 (by omega) (by omega)
  rw [show wl &&& 9223372036854775808 = 0 by
    apply Nat.eq_of_testBit_eq
    intro i
    rw [Nat.testBit_and, Nat.zero_testBit, show (9223372036854775808 : Nat) = 2 ^ 63 from rfl, Nat.testBit_two_pow]
    by_cases e : 63 = i
    · subst e; rw [Nat.testBit_lt_two_pow (by omega)]; rfl
    · simp [e]] at hb
  exact hb

/-- a sum of seconds, held within an int64 -/
def addX (ex c : Int) : Int := if (decide (ex < wrap64 (ex + c)) == decide (0 < c)) = true then wrap64 (ex + c) else if 0 < c then 9223372036854775807 else -9223372036854775807

set_option maxRecDepth 100000 in
set_option maxHeartbeats 800000 in
theorem addSec_any (g wl : Nat) (ex c : Int) (w : World) (h : wl < 1073741824) (h0 : w.cell? ⟨g, 0, none⟩ = some (.int .u64 (wl : Int))) (h1 : w.cell? ⟨g, 1, none⟩ = some (.int .i64 ex)) (f1 : w.frozen? ⟨g, 1, none⟩ = false) :
    Calls Yba.prog 13 #[.pointer (some ⟨g, 0, none⟩), .int .i64 c] w fun e w' => e = .returned (.tuple #[]) ∧ w' = w.setCell ⟨g, 1, none⟩ (.int .i64 (addX ex c)) := by
  have hb := bits_mono_zero wl h
  have hX : Hid (∀ v, addX ex c = v → w.setCell ⟨g, 1, none⟩ (.int .i64 v) = w.setCell ⟨g, 1, none⟩ (.int .i64 (addX ex c))) := by
    intro v hv; rw [hv]
  by_cases hc : 0 < c
  · by_cases hs : ex < wrap64 (ex + c)
    · have HV : Hid (addX ex c = wrap64 (ex + c)) := by
        have : addX ex c = wrap64 (ex + c) := by unfold addX; rw [if_pos (by simp [hs, hc])]
        exact this
      go_enter Yba.func13, Yba.ntmps13
      go_wp2
      go_end0
      exact ⟨rfl, hX.out _ HV.out⟩
    · have HV : Hid (addX ex c = 9223372036854775807) := by
        have : addX ex c = 9223372036854775807 := by unfold addX; rw [if_neg (by simp [hs, hc]), if_pos hc]
        exact this
      go_enter Yba.func13, Yba.ntmps13
      go_wp2
      go_end0
      exact ⟨rfl, hX.out _ HV.out⟩
  · by_cases hs : ex < wrap64 (ex + c)
    · have HV : Hid (addX ex c = -9223372036854775807) := by
        have : addX ex c = -9223372036854775807 := by unfold addX; rw [if_neg (by simp [hs]; omega), if_neg hc]
        exact this
      go_enter Yba.func13, Yba.ntmps13
      go_wp2
      go_end0
      exact ⟨rfl, hX.out _ HV.out⟩
    · have HV : Hid (addX ex c = wrap64 (ex + c)) := by
        have : addX ex c = wrap64 (ex + c) := by unfold addX; rw [if_pos (by simp [hs]; omega)]
        exact this
      go_enter Yba.func13, Yba.ntmps13
      go_wp2
      go_end0
      exact ⟨rfl, hX.out _ HV.out⟩

/-- the nanoseconds and the seconds that go over -/
def addN (wl : Nat) (d : Int) : Nat := (if 1000000000 ≤ (wl : Int) + d.tmod 1000000000 then (wl : Int) + d.tmod 1000000000 - 1000000000 else if (wl : Int) + d.tmod 1000000000 < 0 then (wl : Int) + d.tmod 1000000000 + 1000000000 else (wl : Int) + d.tmod 1000000000).toNat
def addC (wl : Nat) (d : Int) : Int := if 1000000000 ≤ (wl : Int) + d.tmod 1000000000 then d.tdiv 1000000000 + 1 else if (wl : Int) + d.tmod 1000000000 < 0 then d.tdiv 1000000000 - 1 else d.tdiv 1000000000
theorem tmod_bounds (d : Int) : -1000000000 < d.tmod 1000000000 ∧ d.tmod 1000000000 < 1000000000 := by
  by_cases h : 0 ≤ d
  · rw [Int.tmod_eq_emod_of_nonneg h]; omega
  · have := Int.neg_tmod (a := -d) (b := 1000000000)
    rw [Int.neg_neg] at this
    rw [this, Int.tmod_eq_emod_of_nonneg (by omega)]; omega
theorem tdiv_bounds (d : Int) (h1 : -9223372036854775808 ≤ d) (h2 : d ≤ 9223372036854775807) : -9223372037 < d.tdiv 1000000000 ∧ d.tdiv 1000000000 < 9223372037 := by
  by_cases h : 0 ≤ d
  · rw [Int.tdiv_eq_ediv_of_nonneg h]; omega
  · have := Int.neg_tdiv (a := -d) (b := 1000000000)
    rw [Int.neg_neg] at this
    rw [this, Int.tdiv_eq_ediv_of_nonneg (by omega)]; omega
theorem addN_lt (wl : Nat) (d : Int) (h : wl < 1000000000) : addN wl d < 1000000000 := by
  have := tmod_bounds d
  unfold addN
  split
  · omega
  · split <;> omega

theorem bits_andNot_zero (a : Nat) (ha : a < 1073741824) : bits .andNot .u64 (a : Int) 1073741823 = 0 := by
  have h1 : (BitVec.ofInt 64 (a : Int)) = BitVec.ofNat 64 a := BitVec.ofInt_natCast _ _
  show IntKind.u64.wrap ((BitVec.ofInt 64 (a : Int) &&& ~~~ BitVec.ofInt 64 1073741823).toNat : Int) = 0
  have : (BitVec.ofInt 64 (a : Int) &&& ~~~ BitVec.ofInt 64 1073741823).toNat = 0 := by
    apply Nat.eq_of_testBit_eq
    intro i
    rw [Nat.zero_testBit, BitVec.toNat_and, Nat.testBit_and, h1, BitVec.toNat_ofNat, Nat.mod_eq_of_lt (by omega)]
    by_cases hi : i < 30
    · have e : (~~~ BitVec.ofInt 64 1073741823).toNat = 18446744072635809792 := by decide +kernel
      rw [e]
      have : (18446744072635809792 : Nat).testBit i = false := by
        have hall : ∀ j : Fin 30, (18446744072635809792 : Nat).testBit j.1 = false := by decide +kernel
        exact hall ⟨i, hi⟩
      rw [this, Bool.and_false]
    · rw [Nat.testBit_lt_two_pow (Nat.lt_of_lt_of_le ha (Nat.pow_le_pow_right (show 2 > 0 by decide) (show 30 ≤ i by omega)))]; rfl
  rw [this]; rfl

set_option maxRecDepth 100000 in
set_option maxHeartbeats 800000 in
theorem add_exact (wl : Nat) (ex d : Int) (hwl : wl < 1000000000) (hd1 : -9223372036854775808 ≤ d) (hd2 : d ≤ 9223372036854775807) (w : World) :
    Calls Yba.prog 8 #[timeV wl ex, .int .i64 d] w fun e w' => e = .returned (timeV (addN wl d) (addX ex (addC wl d))) ∧ w' = (w.alloc (.cells #[.int .u64 (addN wl d : Int), .int .i64 (addX ex (addC wl d)), .pointer none] 38)).alloc (.cells #[.int .u64 (addN wl d : Int), .int .i64 (addX ex (addC wl d)), .pointer none] 38) := by
  have hr := tmod_bounds d
  have hq := tdiv_bounds d hd1 hd2
  have hN : Hid (addN wl d = addN wl d ∧ addC wl d = addC wl d) := ⟨rfl, rfl⟩
  have h3 : (1000000000 ≤ (wl : Int) + d.tmod 1000000000) ∨ ((wl : Int) + d.tmod 1000000000 < 0) ∨ (0 ≤ (wl : Int) + d.tmod 1000000000 ∧ (wl : Int) + d.tmod 1000000000 < 1000000000) := by omega
  obtain ⟨ns, cs, hns, hcs, hns2, hstep⟩ : ∃ (ns : Nat) (cs : Int), addN wl d = ns ∧ addC wl d = cs ∧ ns < 1000000000 ∧
      ((1000000000 ≤ (wl : Int) + d.tmod 1000000000 ∧ (wl : Int) + d.tmod 1000000000 - 1000000000 = ns ∧ d.tdiv 1000000000 + 1 = cs) ∨ ((wl : Int) + d.tmod 1000000000 < 0 ∧ (wl : Int) + d.tmod 1000000000 + 1000000000 = ns ∧ d.tdiv 1000000000 - 1 = cs) ∨ (0 ≤ (wl : Int) + d.tmod 1000000000 ∧ (wl : Int) + d.tmod 1000000000 = ns ∧ d.tdiv 1000000000 = cs)) := by
    refine ⟨_, _, rfl, rfl, addN_lt wl d hwl, ?_⟩
    unfold addN addC
    rcases h3 with h | h | h
    · left; simp only [if_pos h]; exact ⟨h, by omega, trivial⟩
    · right; left
      have n1 : ¬ 1000000000 ≤ (wl : Int) + d.tmod 1000000000 := by omega
      simp only [if_neg n1, if_pos h]; exact ⟨h, by omega, trivial⟩
    · right; right
      have n1 : ¬ 1000000000 ≤ (wl : Int) + d.tmod 1000000000 := by omega
      have n2 : ¬ (wl : Int) + d.tmod 1000000000 < 0 := by omega
      simp only [if_neg n1, if_neg n2]; exact ⟨h.1, by omega, trivial⟩
  rw [hns, hcs]
  clear hN h3 hns hcs
  have hcell0 : ((w.alloc (.cells #[.int .u64 (wl : Int), .int .i64 ex, .pointer none] 38)).alloc (.cells #[.int .u64 0, .int .i64 0, .pointer none] 38)).cell? ⟨w.heap.size, 0, none⟩ = some (.int .u64 (wl : Int)) := by
    rw [World.cell?_of_block (Below.heap_alloc _ _ _ (by simp))]
    simp only [World.cell?, heap_alloc_new]; rfl
  have hnc := nsec_any w.heap.size wl _ (by omega) hcell0
  clear hcell0
  have han := bits_andNot_zero wl (by omega)
  have hor : bits .or .u64 0 (ns : Int) = (ns : Int) := by
    have := bits_or_u64_nat 0 ns (by omega) (by omega)
    rw [Nat.zero_or] at this; exact this
  have hmo := bits_mono_zero ns (by omega)
  have hcsb : -9223372038 < cs ∧ cs < 9223372038 := by omega
  have hconv : IntKind.u64.wrap (ns : Int) = (ns : Int) := by rw [u64_wrap_id] <;> omega
  have hcA : ((w.alloc (.cells #[.int .u64 (ns : Int), .int .i64 ex, .pointer none] 38)).alloc (.cells #[.int .u64 0, .int .i64 0, .pointer none] 38)).cell? ⟨w.heap.size, 0, none⟩ = some (.int .u64 (ns : Int)) := by
    rw [World.cell?_of_block (Below.heap_alloc _ _ _ (by simp))]
    simp only [World.cell?, heap_alloc_new]; rfl
  have hcB : ((w.alloc (.cells #[.int .u64 (ns : Int), .int .i64 ex, .pointer none] 38)).alloc (.cells #[.int .u64 0, .int .i64 0, .pointer none] 38)).cell? ⟨w.heap.size, 1, none⟩ = some (.int .i64 ex) := by
    rw [World.cell?_of_block (Below.heap_alloc _ _ _ (by simp))]
    simp only [World.cell?, heap_alloc_new]; rfl
  have hfB : ((w.alloc (.cells #[.int .u64 (ns : Int), .int .i64 ex, .pointer none] 38)).alloc (.cells #[.int .u64 0, .int .i64 0, .pointer none] 38)).frozen? ⟨w.heap.size, 1, none⟩ = false := by
    rw [World.frozen?_of_block (Below.heap_alloc _ _ _ (by simp))]
    simp only [World.frozen?, heap_alloc_new]; rfl
  have hac := addSec_any w.heap.size ns ex cs _ (by omega) hcA hcB hfB
  clear hcA hcB hfB
  obtain ⟨hr1, hr2⟩ := hr
  obtain ⟨hq1, hq2⟩ := hq
  generalize hre : d.tmod 1000000000 = r at *
  generalize hqe : d.tdiv 1000000000 = q at *
  unfold timeV
  have HN : Hid (((w.alloc (.cells #[.int .u64 (ns : Int), .int .i64 (addX ex cs), .pointer none] 38)).alloc (.cells #[.int .u64 (ns : Int), .int .i64 (addX ex cs), .pointer none] 38)).heap[w.heap.size + 1]? = some (.cells #[.int .u64 (ns : Int), .int .i64 (addX ex cs), .pointer none] 38 (0, 0))) := by
    have := heap_alloc_new (w.alloc (.cells #[.int .u64 (ns : Int), .int .i64 (addX ex cs), .pointer none] 38)) (.cells #[.int .u64 (ns : Int), .int .i64 (addX ex cs), .pointer none] 38)
    rw [show (w.alloc (.cells #[.int .u64 (ns : Int), .int .i64 (addX ex cs), .pointer none] 38)).heap.size = w.heap.size + 1 by simp] at this
    exact this
  rcases hstep with ⟨g1, g2, g3⟩ | ⟨g1, g2, g3⟩ | ⟨g1, g2, g3⟩
  · go_enter Yba.func8, Yba.ntmps8
    go_wp2_with (first | (go_at_call 12; refine hnc.mono ?_; rintro e w' ⟨rfl, rfl⟩) | (go_at_call 13; refine hac.mono ?_; rintro e w' ⟨rfl, rfl⟩))
    refine bodyPost_ret (results_cell_row rfl _ _ (w.heap.size + 1) 38 _ (0, 0) _ rfl HN.out Yba.underlying38 rfl (by kernel_rfl)) rfl ?_
    exact ⟨rfl, rfl⟩
  · go_enter Yba.func8, Yba.ntmps8
    go_wp2_with (first | (go_at_call 12; refine hnc.mono ?_; rintro e w' ⟨rfl, rfl⟩) | (go_at_call 13; refine hac.mono ?_; rintro e w' ⟨rfl, rfl⟩))
    refine bodyPost_ret (results_cell_row rfl _ _ (w.heap.size + 1) 38 _ (0, 0) _ rfl HN.out Yba.underlying38 rfl (by kernel_rfl)) rfl ?_
    exact ⟨rfl, rfl⟩
  · subst g3
    have hlo : ¬ ((wl : Int) + r < 0) := by omega
    have hhi : ¬ (1000000000 ≤ (wl : Int) + r) := by omega
    have HG : Hid ((wl : Int) + r = (ns : Int)) := g2
    clear g1 g2
    go_enter Yba.func8, Yba.ntmps8
    go_wp2_with (go_at_call 12; refine hnc.mono ?_; rintro e w' ⟨rfl, rfl⟩)
    rw [HG.out, hor]
    refine hac.mono ?_
    rintro e w' ⟨rfl, rfl⟩
    go_wp2_with fail
    refine bodyPost_ret (results_cell_row rfl _ _ (w.heap.size + 1) 38 _ (0, 0) _ rfl HN.out Yba.underlying38 rfl (by kernel_rfl)) rfl ?_
    exact ⟨rfl, rfl⟩
theorem add_any (wl : Nat) (ex d : Int) (hwl : wl < 1000000000) (hd1 : -9223372036854775808 ≤ d) (hd2 : d ≤ 9223372036854775807) (w : World) :
    Calls Yba.prog 8 #[timeV wl ex, .int .i64 d] w fun e w' => e = .returned (timeV (addN wl d) (addX ex (addC wl d))) ∧ Below w.heap.size w w' := by
  refine (add_exact wl ex d hwl hd1 hd2 w).mono ?_
  rintro e w' ⟨rfl, rfl⟩
  exact ⟨rfl, ((Below.refl _ _).alloc (Nat.le_refl _) _).alloc (by simp) _⟩
end Go.Proofs.Ybulkegxe
