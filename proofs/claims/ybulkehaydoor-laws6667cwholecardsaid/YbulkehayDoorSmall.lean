import Derived.Test.YbulkehayDoorBits
import Derived.Lib.SliceRun
namespace Go.Proofs.YbulkehayDoor
open Go.RowKit

theorem nil25 (a : Option Addr) (n c n' c' : Nat) (w : World) : (binOp .eql 25 (.slice a n c) (.slice none n' c')).run Ybad.prog w = .ok (.bool a.isNone) w := Lib.run_eql_slice_nil w _ _ a n c n' c' Ybad.underlying25

/-- a block that holds these values, one a cell -/
def Held (w : World) (g : Nat) (xs : List Value) : Prop := ∀ j u, xs[j]? = some u → w.cell? ⟨g, j, none⟩ = some u

/-- the word of raw data -/
def wordOf (z : List Int) (k n : Nat) : Nat :=
  if z.length = 0 then 0 else if n - 64 * k < 64 then (z.getD (k % z.length) 0).toNat % 2 ^ (n - 64 * k) else (z.getD (k % z.length) 0).toNat
def AllU (z : List Int) : Prop := ∀ i, i < z.length → 0 ≤ z.getD i 0 ∧ z.getD i 0 < 18446744073709551616

theorem wordOf_lt (z : List Int) (hz : AllU z) (k n : Nat) : wordOf z k n < 18446744073709551616 := by
  unfold wordOf
  split
  · decide
  · have := hz (k % z.length) (Nat.mod_lt _ (by omega))
    split
    · have := Nat.mod_le (z.getD (k % z.length) 0).toNat (2 ^ (n - 64 * k)); omega
    · omega
theorem wordOf_past (z : List Int) (k n i : Nat) (hi : n ≤ 64 * k + i) (hk : 64 * k ≤ n) (h64 : i < 64) : (wordOf z k n).testBit i = false := by
  unfold wordOf
  split
  · simp
  · rw [if_pos (by omega), Nat.testBit_mod_two_pow]
    simp; omega

theorem word_mask (x r : Nat) (hx : x < 18446744073709551616) (hr : r < 64) :
    bits .and .u64 (x : Int) (IntKind.u64.wrap (IntKind.u64.wrap (2 ^ r) - 1)) = ((x % 2 ^ r : Nat) : Int) := by
  have h2 : 2 ^ r ≤ 2 ^ 63 := Nat.pow_le_pow_right (by decide) (by omega)
  have h0 := Nat.two_pow_pos r
  have e : (2 : Int) ^ r = ((2 ^ r : Nat) : Int) := by rw [Int.natCast_pow]; rfl
  rw [e]
  have e2 : IntKind.u64.wrap (IntKind.u64.wrap ((2 ^ r : Nat) : Int) - 1) = ((2 ^ r - 1 : Nat) : Int) := by
    rw [IntKind.wrap_u64, IntKind.wrap_u64]; omega
  rw [e2, bits_and_u64_nat _ _ hx (by omega), Nat.and_two_pow_sub_one_eq_mod]

set_option maxHeartbeats 400000 in
theorem word_none (a : Option Addr) (c k n : Nat) (w : World) :
    Calls Ybad.prog 4 #[.slice a 0 c, .int .i64 (k : Int), .int .i64 (n : Int)] w fun e w' => e = .returned (.int .u64 0) ∧ w' = w := by
  go_enter Ybad.func4, Ybad.ntmps4
  go_wp2
  go_ret
  exact ⟨rfl, rfl⟩

set_option maxHeartbeats 400000 in
theorem word_some (b off l c k n : Nat) (z : List Int) (hl : z.length = l) (hz : AllU z) (hl0 : 0 < l) (hl2 : l ≤ 9223372036854775807) (hk : 64 * k < n) (hn : n ≤ 6200) (w : World)
    (hc : ∀ j, j < z.length → w.cell? ⟨b, off + j, none⟩ = some (.int .u64 (z.getD j 0))) :
    Calls Ybad.prog 4 #[.slice (some ⟨b, off, none⟩) l c, .int .i64 (k : Int), .int .i64 (n : Int)] w fun e w' => e = .returned (.int .u64 (wordOf z k n : Nat)) ∧ w' = w := by
  have hm : k % l < l := Nat.mod_lt _ hl0
  have hc1 := hc (k % l) (by omega)
  have hu := hz (k % l) (by omega)
  have hw : wordOf z k n = if n - 64 * k < 64 then (z.getD (k % l) 0).toNat % 2 ^ (n - 64 * k) else (z.getD (k % l) 0).toNat := by
    rw [wordOf, if_neg (by omega), hl]
  obtain ⟨x, hx⟩ : ∃ x : Nat, z.getD (k % l) 0 = (x : Int) := ⟨(z.getD (k % l) 0).toNat, by omega⟩
  rw [hx] at hc1 hu hw
  have hx2 : x < 18446744073709551616 := by omega
  rw [Int.toNat_natCast] at hw
  have hl0' : ¬ (l = 0) := by omega
  have hl0i : ¬ ((l : Int) = 0) := by omega
  have hrem : (k : Int) % (l : Int) = ((k % l : Nat) : Int) := by omega
  have hr : (n : Int) - 64 * (k : Int) = ((n - 64 * k : Nat) : Int) := by omega
  rw [hw]
  generalize k % l = m at *
  clear hc hu hz hw hx hl
  by_cases hrl : n - 64 * k < 64
  · rw [if_pos hrl]
    have hmask := word_mask x (n - 64 * k) hx2 hrl
    generalize x % 2 ^ (n - 64 * k) = y at *
    generalize n - 64 * k = r at *
    go_enter Ybad.func4, Ybad.ntmps4
    go_wp2
    go_ret
    exact ⟨rfl, rfl⟩
  · rw [if_neg hrl]
    generalize n - 64 * k = r at *
    go_enter Ybad.func4, Ybad.ntmps4
    go_wp2
    go_ret
    exact ⟨rfl, rfl⟩

theorem bit_at (x r : Nat) (hx : x < 18446744073709551616) : (bits .and .u64 ((x : Int) / 2 ^ r) 1 == 1) = x.testBit r := by
  have e : (2 : Int) ^ r = ((2 ^ r : Nat) : Int) := by rw [Int.natCast_pow]; rfl
  have h1 : x / 2 ^ r ≤ x := Nat.div_le_self _ _
  rw [e, ← Int.natCast_ediv, show (1 : Int) = ((1 : Nat) : Int) from rfl, bits_and_u64_nat _ _ (by omega) (by decide), Nat.testBit_eq_decide_div_mod_eq, Nat.and_one_is_mod]
  have : x / 2 ^ r % 2 = 0 ∨ x / 2 ^ r % 2 = 1 := by omega
  rcases this with h | h <;> simp [h]

set_option maxRecDepth 100000 in
set_option maxHeartbeats 400000 in
theorem bit_nil (i : Nat) (w : World) : Calls Ybad.prog 5 #[.slice none 0 0, .int .i64 (i : Int)] w fun e w' => e = .returned (.bool false) ∧ w' = w := by
  have hnil := nil25
  go_enter Ybad.func5, Ybad.ntmps5
  go_wp2
  go_ret
  exact ⟨rfl, rfl⟩

set_option maxRecDepth 100000 in
set_option maxHeartbeats 400000 in
theorem bit_some (g W i x : Nat) (w : World) (hi : i / 64 < W) (hi2 : i ≤ 6200) (hx : x < 18446744073709551616) (hc : w.cell? ⟨g, i / 64, none⟩ = some (.int .u64 (x : Int))) :
    Calls Ybad.prog 5 #[.slice (some ⟨g, 0, none⟩) W W, .int .i64 (i : Int)] w fun e w' => e = .returned (.bool (x.testBit (i % 64))) ∧ w' = w := by
  have h1 : (i : Int) / 64 = ((i / 64 : Nat) : Int) := by omega
  have h2 : (i : Int) % 64 = ((i % 64 : Nat) : Int) := by omega
  have h3 : i % 64 < 64 := by omega
  have h4 := bit_at x (i % 64) hx
  generalize i / 64 = q at *
  generalize i % 64 = r at *
  generalize x.testBit r = B at *
  have hnil := nil25
  go_enter Ybad.func5, Ybad.ntmps5
  go_wp2
  go_ret
  exact ⟨rfl, rfl⟩

theorem Ybad.info26 : (Ybad.prog.info? 26).map (fun i => (i.zero, i.size, i.bytes)) = some (some (.int .u64 0), 1, 8) := by kernel_rfl
theorem Ybad.info21 : (Ybad.prog.info? 21).map (fun i => (i.zero, i.size, i.bytes)) = some (some (.int .i32 0), 1, 4) := by kernel_rfl
theorem nil29 (a : Option Addr) (n c n' c' : Nat) (w : World) : (binOp .eql 29 (.slice a n c) (.slice none n' c')).run Ybad.prog w = .ok (.bool a.isNone) w := Lib.run_eql_slice_nil w _ _ a n c n' c' Ybad.underlying29
theorem nil28 (a : Option Addr) (n c n' c' : Nat) (w : World) : (binOp .eql 28 (.slice a n c) (.slice none n' c')).run Ybad.prog w = .ok (.bool a.isNone) w := Lib.run_eql_slice_nil w _ _ a n c n' c' Ybad.underlying28
theorem unil29 (a : Option Addr) (n c n' c' : Nat) (w : World) : (binOp .neq 29 (.slice a n c) (.slice none n' c')).run Ybad.prog w = .ok (.bool (!a.isNone)) w := run_neq_slice_nil_any w _ _ a n c n' c' Ybad.underlying29

/-- integers as values -/
def ints (k : IntKind) (zs : List Int) : List Value := zs.map (Value.int k)
theorem ints_one (k : IntKind) (zs : List Int) : ∀ v ∈ ints k zs, v.oneCell' = true := by
  intro v hv
  obtain ⟨z, _, rfl⟩ := List.mem_map.1 hv
  rfl
/-- what a clone is -/
def Cloned (w : World) (v : Value) (base : Nat) (xs : List Value) : Prop := ∃ g cap, v = .slice (some ⟨g, 0, none⟩) xs.length cap ∧ base ≤ g ∧ g < w.heap.size ∧ Held w g xs
theorem Cloned.of {w : World} {base n : Nat} {e : TypeId} {v : Value} {xs : List Value} (h : w.ownsRow base e 1 v n xs) (hn : v ≠ .slice none 0 0) : Cloned w v base xs := by
  have hl : xs.length = n := by have := h.1; omega
  rcases h.2 with ⟨h1, _⟩ | ⟨g, cap, cur, rfl, hb, hg, hc, hm, hs, ht⟩
  · exact absurd h1 hn
  · refine ⟨g, cap, by rw [hl], hb, (Array.getElem?_eq_some_iff.1 hg).1, fun j u hj => ?_⟩
    have hjl : j < n := by
      have := (List.getElem?_eq_some_iff.1 hj).1; omega
    rw [h.cellAt j (by omega)]; exact hj

set_option maxRecDepth 100000 in
set_option maxHeartbeats 800000 in
theorem clone6 (g n c : Nat) (zs : List Int) (w : World) (hl : zs.length = n) (hn : n ≤ 20000) (hc : Held w g (ints .u64 zs)) :
    Calls Ybad.prog 6 #[.slice (some ⟨g, 0, none⟩) n c] w fun e w' => ∃ v', e = .returned v' ∧ Cloned w' v' w.heap.size (ints .u64 zs) ∧ Below w.heap.size w w' := by
  have hnil := nil25
  obtain ⟨i0, hi, hz0, hz1, hz2⟩ := info_parts Ybad.info26
  have A : Hid (Held w g (ints .u64 zs)) := hc
  have hxl : (ints .u64 zs).length = n * 1 := by simp [ints, hl]
  have hx1 := ints_one .u64 zs
  generalize ints .u64 zs = news at *
  clear hc hl
  go_enter Ybad.func6, Ybad.ntmps6
  go_wp2_with (at_builtin; refine wpList_append_own _ rfl _ _ 25 rfl w.heap.size 26 i0 (.int .u64 0) 1 8 Ybad.underlying25 hi hz0 hz1 hz2 rfl (by decide) _ _ _ rfl (World.ownsRow_made w #[] 0 (Nat.le_refl _) (Nat.zero_le _) (by simp)) ⟨g, 0, none⟩ n c news rfl ?qc1 ?qc2 ?qc3 ?qc4 ?qc5 ?qc6 ?_)
  case qc1 => exact hxl
  case qc2 =>
    intro j u hj
    rw [Addr.add_lit, Nat.zero_add]
    exact Lib.cell?_alloc_some _ (A.out j u hj)
  case qc3 => exact hx1
  case qc4 => unfold maxLen; omega
  case qc5 => omega
  case qc6 => simp
  intro v' w1 hown hgrow hnn
  go_wp2
  go_ret
  refine ⟨v', rfl, Cloned.of (by simpa using hown) hnn, ?_⟩
  exact ((Below.refl _ w).alloc (Nat.le_refl _) _).grown hgrow (by simp) (by intro k hk; simp [Value.ownBlock] at hk; omega)

set_option maxRecDepth 100000 in
set_option maxHeartbeats 800000 in
theorem clone7 (g n c : Nat) (zs : List Int) (w : World) (hl : zs.length = n) (hn : n ≤ 20000) (hc : Held w g (ints .i32 zs)) :
    Calls Ybad.prog 7 #[.slice (some ⟨g, 0, none⟩) n c] w fun e w' => ∃ v', e = .returned v' ∧ Cloned w' v' w.heap.size (ints .i32 zs) ∧ Below w.heap.size w w' := by
  have hnil := nil29
  obtain ⟨i0, hi, hz0, hz1, hz2⟩ := info_parts Ybad.info21
  have A : Hid (Held w g (ints .i32 zs)) := hc
  have hxl : (ints .i32 zs).length = n * 1 := by simp [ints, hl]
  have hx1 := ints_one .i32 zs
  generalize ints .i32 zs = news at *
  clear hc hl
  go_enter Ybad.func7, Ybad.ntmps7
  go_wp2_with (at_builtin; refine wpList_append_own _ rfl _ _ 29 rfl w.heap.size 21 i0 (.int .i32 0) 1 4 Ybad.underlying29 hi hz0 hz1 hz2 rfl (by decide) _ _ _ rfl (World.ownsRow_made w #[] 0 (Nat.le_refl _) (Nat.zero_le _) (by simp)) ⟨g, 0, none⟩ n c news rfl ?qc1 ?qc2 ?qc3 ?qc4 ?qc5 ?qc6 ?_)
  case qc1 => exact hxl
  case qc2 =>
    intro j u hj
    rw [Addr.add_lit, Nat.zero_add]
    exact Lib.cell?_alloc_some _ (A.out j u hj)
  case qc3 => exact hx1
  case qc4 => unfold maxLen; omega
  case qc5 => omega
  case qc6 => simp
  intro v' w1 hown hgrow hnn
  go_wp2
  go_ret
  refine ⟨v', rfl, Cloned.of (by simpa using hown) hnn, ?_⟩
  exact ((Below.refl _ w).alloc (Nat.le_refl _) _).grown hgrow (by simp) (by intro k hk; simp [Value.ownBlock] at hk; omega)

set_option maxRecDepth 100000 in
set_option maxHeartbeats 800000 in
theorem clone8 (g n c : Nat) (zs : List Int) (w : World) (hl : zs.length = n) (hn : n ≤ 20000) (hc : Held w g (ints .i32 zs)) :
    Calls Ybad.prog 8 #[.slice (some ⟨g, 0, none⟩) n c] w fun e w' => ∃ v', e = .returned v' ∧ Cloned w' v' w.heap.size (ints .i32 zs) ∧ Below w.heap.size w w' := by
  have hnil := nil28
  obtain ⟨i0, hi, hz0, hz1, hz2⟩ := info_parts Ybad.info21
  have A : Hid (Held w g (ints .i32 zs)) := hc
  have hxl : (ints .i32 zs).length = n * 1 := by simp [ints, hl]
  have hx1 := ints_one .i32 zs
  generalize ints .i32 zs = news at *
  clear hc hl
  go_enter Ybad.func8, Ybad.ntmps8
  go_wp2_with (at_builtin; refine wpList_append_own _ rfl _ _ 28 rfl w.heap.size 21 i0 (.int .i32 0) 1 4 Ybad.underlying28 hi hz0 hz1 hz2 rfl (by decide) _ _ _ rfl (World.ownsRow_made w #[] 0 (Nat.le_refl _) (Nat.zero_le _) (by simp)) ⟨g, 0, none⟩ n c news rfl ?qc1 ?qc2 ?qc3 ?qc4 ?qc5 ?qc6 ?_)
  case qc1 => exact hxl
  case qc2 =>
    intro j u hj
    rw [Addr.add_lit, Nat.zero_add]
    exact Lib.cell?_alloc_some _ (A.out j u hj)
  case qc3 => exact hx1
  case qc4 => unfold maxLen; omega
  case qc5 => omega
  case qc6 => simp
  intro v' w1 hown hgrow hnn
  go_wp2
  go_ret
  refine ⟨v', rfl, Cloned.of (by simpa using hown) hnn, ?_⟩
  exact ((Below.refl _ w).alloc (Nat.le_refl _) _).grown hgrow (by simp) (by intro k hk; simp [Value.ownBlock] at hk; omega)

set_option maxRecDepth 100000 in
set_option maxHeartbeats 400000 in
theorem clone6_nil (w : World) : Calls Ybad.prog 6 #[.slice none 0 0] w fun e w' => e = .returned (.slice none 0 0) ∧ w' = w := by
  have hnil := nil25
  go_enter Ybad.func6, Ybad.ntmps6
  go_wp2
  go_ret
  exact ⟨rfl, rfl⟩

set_option maxRecDepth 100000 in
set_option maxHeartbeats 800000 in
theorem equal12 (g1 n c1 g2 c2 : Nat) (zs : List Int) (w : World) (hl : zs.length = n) (hn : n ≤ 20000) (h1 : Held w g1 (ints .u64 zs)) (h2 : Held w g2 (ints .u64 zs)) :
    Calls Ybad.prog 12 #[.slice (some ⟨g1, 0, none⟩) n c1, .slice (some ⟨g2, 0, none⟩) n c2] w fun e w' => e = .returned (.bool true) ∧ ∃ q, w' = w.drewN q := by
  have A1 : Hid (Held w g1 (ints .u64 zs)) := h1
  have A2 : Hid (Held w g2 (ints .u64 zs)) := h2
  clear h1 h2
  go_enter Ybad.func12, Ybad.ntmps12
  go_wp2
  go_loopw [13] (fun i wr => ∃ m q : Nat, m ≤ n ∧ i = .int .i64 (m : Int) ∧ wr = w.drewN q) (fun i _ => n - (intOf i).toNat)
  case atStart => exact ⟨0, 0, Nat.zero_le _, rfl, rfl⟩
  case round =>
    obtain ⟨m, q, hm, rfl, rfl⟩ := hrel
    by_cases hlt : m < n
    · obtain ⟨z, hz⟩ : ∃ z, zs[m]? = some z := ⟨_, List.getElem?_eq_getElem (by omega)⟩
      have e1 : w.cell? ⟨g1, m, none⟩ = some (.int .u64 z) := A1.out m _ (by simp [ints, hz])
      have e2 : w.cell? ⟨g2, m, none⟩ = some (.int .u64 z) := A2.out m _ (by simp [ints, hz])
      clear hz
      go_wp2
      go_quiet (fail)
      go_wp2
      go_roundw
      case rel => exact ⟨m + 1, _, by omega, by go_num, rfl⟩
      case measure => simp [intOf]; omega
    · go_wp2
      go_ret
      exact ⟨rfl, q, rfl⟩

set_option maxRecDepth 100000 in
set_option maxHeartbeats 800000 in
theorem equal13 (g1 n c1 g2 c2 : Nat) (zs : List Int) (w : World) (hl : zs.length = n) (hn : n ≤ 20000) (h1 : Held w g1 (ints .i32 zs)) (h2 : Held w g2 (ints .i32 zs)) :
    Calls Ybad.prog 13 #[.slice (some ⟨g1, 0, none⟩) n c1, .slice (some ⟨g2, 0, none⟩) n c2] w fun e w' => e = .returned (.bool true) ∧ ∃ q, w' = w.drewN q := by
  have A1 : Hid (Held w g1 (ints .i32 zs)) := h1
  have A2 : Hid (Held w g2 (ints .i32 zs)) := h2
  clear h1 h2
  go_enter Ybad.func13, Ybad.ntmps13
  go_wp2
  go_loopw [13] (fun i wr => ∃ m q : Nat, m ≤ n ∧ i = .int .i64 (m : Int) ∧ wr = w.drewN q) (fun i _ => n - (intOf i).toNat)
  case atStart => exact ⟨0, 0, Nat.zero_le _, rfl, rfl⟩
  case round =>
    obtain ⟨m, q, hm, rfl, rfl⟩ := hrel
    by_cases hlt : m < n
    · obtain ⟨z, hz⟩ : ∃ z, zs[m]? = some z := ⟨_, List.getElem?_eq_getElem (by omega)⟩
      have e1 : w.cell? ⟨g1, m, none⟩ = some (.int .i32 z) := A1.out m _ (by simp [ints, hz])
      have e2 : w.cell? ⟨g2, m, none⟩ = some (.int .i32 z) := A2.out m _ (by simp [ints, hz])
      clear hz
      go_wp2
      go_quiet (fail)
      go_wp2
      go_roundw
      case rel => exact ⟨m + 1, _, by omega, by go_num, rfl⟩
      case measure => simp [intOf]; omega
    · go_wp2
      go_ret
      exact ⟨rfl, q, rfl⟩

set_option maxRecDepth 100000 in
set_option maxHeartbeats 800000 in
theorem equal14 (g1 n c1 g2 c2 : Nat) (zs : List Int) (w : World) (hl : zs.length = n) (hn : n ≤ 20000) (h1 : Held w g1 (ints .i32 zs)) (h2 : Held w g2 (ints .i32 zs)) :
    Calls Ybad.prog 14 #[.slice (some ⟨g1, 0, none⟩) n c1, .slice (some ⟨g2, 0, none⟩) n c2] w fun e w' => e = .returned (.bool true) ∧ ∃ q, w' = w.drewN q := by
  have A1 : Hid (Held w g1 (ints .i32 zs)) := h1
  have A2 : Hid (Held w g2 (ints .i32 zs)) := h2
  clear h1 h2
  go_enter Ybad.func14, Ybad.ntmps14
  go_wp2
  go_loopw [13] (fun i wr => ∃ m q : Nat, m ≤ n ∧ i = .int .i64 (m : Int) ∧ wr = w.drewN q) (fun i _ => n - (intOf i).toNat)
  case atStart => exact ⟨0, 0, Nat.zero_le _, rfl, rfl⟩
  case round =>
    obtain ⟨m, q, hm, rfl, rfl⟩ := hrel
    by_cases hlt : m < n
    · obtain ⟨z, hz⟩ : ∃ z, zs[m]? = some z := ⟨_, List.getElem?_eq_getElem (by omega)⟩
      have e1 : w.cell? ⟨g1, m, none⟩ = some (.int .i32 z) := A1.out m _ (by simp [ints, hz])
      have e2 : w.cell? ⟨g2, m, none⟩ = some (.int .i32 z) := A2.out m _ (by simp [ints, hz])
      clear hz
      go_wp2
      go_quiet (fail)
      go_wp2
      go_roundw
      case rel => exact ⟨m + 1, _, by omega, by go_num, rfl⟩
      case measure => simp [intOf]; omega
    · go_wp2
      go_ret
      exact ⟨rfl, q, rfl⟩
end Go.Proofs.YbulkehayDoor
