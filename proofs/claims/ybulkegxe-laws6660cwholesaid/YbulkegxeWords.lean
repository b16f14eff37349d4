import Derived.Test.YbulkegxeRows
import Derived.Test.YbulkegxeKeys
import Derived.Shelf.Bin.ReadersZ
import Derived.Shelf.Small.Bits
import Derived.Shelf.Lay
import Derived.Ground.MnProg
import Derived.Ground.NamesProg
import Derived.WalkKit
import Derived.WalkSpells
import Derived.WalkLawsBesides
import Derived.BigQuiet
import Derived.Deep.QuietTactic
import Derived.Deep.RegionWith
import Derived.Laws.Bits64b
import Derived.Lib.EndianBits
namespace Go.Proofs
open Go.Shelf
shelf_lay LaysBin.n42 Mn 42 at Yba as Yba.lays21
shelf_lay LaysBin.n33 Mn 33 at Yba as Yba.lays26
shelf_lay Lays.n134 Nm 134 at Yba as Yba.lays22
end Go.Proofs
namespace Go.Proofs.Ybulkegxe
open Go.RowKit Go.Shelf

/-- a key's cells -/
def kcells (x : List Nat) : Array Value := ((zs x).map (Value.int .u8)).toArray
def keyV (x : List Nat) : Value := .agg (kcells x)
structure IsKey (x : List Nat) : Prop where
  len : x.length = 32
  byte : Bytes x
theorem kcells_get (x : List Nat) (i : Nat) (h : i < x.length) : (kcells x)[i]? = some (.int .u8 ((x.getD i 0 : Nat) : Int)) := by
  simp [kcells, zs, List.getD_eq_getElem?_getD, List.getElem?_eq_getElem h]
theorem kcells_size (x : List Nat) : (kcells x).size = x.length := by simp [kcells, zs]

theorem kcell_new (w : World) (x : List Nat) (t : TypeId) (i : Nat) (h : i < x.length) : (w.alloc (.cells (kcells x) t)).cell? ⟨w.heap.size, i, none⟩ = some (.int .u8 ((x.getD i 0 : Nat) : Int)) := by
  have := kcells_get x i h
  simp only [World.cell?, heap_alloc_new]
  exact this

theorem shl8_or (h z : Nat) (hh : h < 72057594037927936) (hz : z < 256) : bits .or .u64 ((h : Int) * 256) (z : Int) = ((h * 256 + z : Nat) : Int) := by
  rw [show (h : Int) * 256 = ((h * 256 : Nat) : Int) by omega, bits_or_u64_nat _ _ (by omega) (by omega), nat_join8 _ _ (by omega) hz]

set_option maxRecDepth 100000 in
set_option maxHeartbeats 400000 in
theorem chead_any (x : List Nat) (hx : IsKey x) (w : World) :
    Calls Yba.prog 9 #[keyV x] w fun e w' => e = .returned (.int .u64 ((beN (x.take 8) : Nat) : Int)) ∧ Below w.heap.size w w' := by
  have HB : Hid (Below w.heap.size w (w.alloc (.cells (kcells x) 29))) := (Below.refl _ _).alloc (Nat.le_refl _) _
  have HX : Hid (IsKey x) := hx
  clear hx
  unfold keyV
  go_enter Yba.func9, Yba.ntmps9
  go_wp2
  go_loop [3, 4] (fun h i => ∃ i' : Nat, i = .int .i64 (i' : Int) ∧ i' ≤ 8 ∧ h = .int .u64 ((beN (x.take i') : Nat) : Int)) (fun _ i => 8 - (intOf i).toNat)
  case atStart => exact ⟨0, rfl, by omega, rfl⟩
  case round =>
    obtain ⟨i, rfl, hi, rfl⟩ := hrel
    by_cases hlt : i < 8
    · have hc := kcell_new w x 29 i (by rw [HX.out.len]; omega)
      have hz := byte_getD HX.out.byte i
      have hb := beN_lt (x.take i) (HX.out.byte.take i)
      have hb2 : beN (x.take i) < 72057594037927936 := by
        have e : (x.take i).length = i := by rw [List.length_take, HX.out.len]; omega
        rw [e] at hb
        have : 256 ^ i ≤ 256 ^ 7 := Nat.pow_le_pow_right (by decide) (by omega)
        omega
      have HS : Hid (beN (x.take (i + 1)) = beN (x.take i) * 256 + x.getD i 0) := by
        have : beN (x.take (i + 1)) = beN (x.take i) * 256 + x.getD i 0 := by rw [take_snoc x i (by rw [HX.out.len]; omega), beN_snoc]
        exact this
      have hsh := shl8_or (beN (x.take i)) (x.getD i 0) hb2 hz
      have HH : Hid (bits .or .u64 ((beN (x.take i) : Int) * 256) ((x.getD i 0 : Nat) : Int) = ((beN (x.take i) * 256 + x.getD i 0 : Nat) : Int)) := hsh
      clear hb hsh
      generalize beN (x.take i) = h at *
      generalize x.getD i 0 = z at *
      go_wp2
      refine ⟨⟨i + 1, by go_num, by omega, ?_⟩, by simp only [intOf]; omega⟩
      rw [HH.out, HS.out]
    · obtain rfl : i = 8 := by omega
      go_wp2
      go_ret
      exact ⟨rfl, HB.out⟩

theorem bits_xor_u8_nat (a b : Nat) (ha : a < 256) (hb : b < 256) : bits .xor .u8 (a : Int) (b : Int) = ((a ^^^ b : Nat) : Int) := by
  have hx : a ^^^ b < 2 ^ 8 := Nat.xor_lt_two_pow (by omega) (by omega)
  have h1 : (BitVec.ofInt 8 (a : Int)).toNat = a := by
    rw [BitVec.ofInt_natCast, BitVec.toNat_ofNat]; exact Nat.mod_eq_of_lt (by omega)
  have h2 : (BitVec.ofInt 8 (b : Int)).toNat = b := by
    rw [BitVec.ofInt_natCast, BitVec.toNat_ofNat]; exact Nat.mod_eq_of_lt (by omega)
  show IntKind.u8.wrap ((BitVec.ofInt 8 (a : Int) ^^^ BitVec.ofInt 8 (b : Int)).toNat : Int) = _
  rw [BitVec.toNat_xor, h1, h2]
  simp only [IntKind.wrap, IntKind.bits, IntKind.signed]
  simp
  omega
theorem bitLen_at (x n : Nat) (hx : x < 256) (hn : n < 8) (h1 : 128 ≤ x * 2 ^ n) (h2 : x * 2 ^ n < 256) : Lib.bitLen x = 8 - n :=
  (by decide +kernel : ∀ (x : Fin 256) (n : Fin 8), 128 ≤ x.1 * 2 ^ n.1 → x.1 * 2 ^ n.1 < 256 → Lib.bitLen x.1 = 8 - n.1) ⟨x, hx⟩ ⟨n, hn⟩ h1 h2
theorem bits_and128 (a : Nat) (ha : a < 256) : (bits .and .u8 (a : Int) 128 == 0) = decide (a < 128) := by
  exact (by decide +kernel : ∀ x : Fin 256, (bits .and .u8 ((x.1 : Nat) : Int) 128 == 0) = decide (x.1 < 128)) ⟨a, ha⟩

set_option maxRecDepth 100000 in
set_option maxHeartbeats 400000 in
theorem ccpl_any (x y : List Nat) (hx : IsKey x) (hy : IsKey y) (w : World) :
    Calls Yba.prog 7 #[keyV x, keyV y] w fun e w' => e = .returned (.int .i64 ((cplN x y : Nat) : Int)) ∧ Below w.heap.size w w' := by
  have HB : Hid (∀ q, Below w.heap.size w (((w.alloc (.cells (kcells x) 29)).alloc (.cells (kcells y) 29)).drewN q)) := fun q => by
    have := ((Below.refl w.heap.size w).alloc (Nat.le_refl _) (.cells (kcells x) 29)).alloc (by simp) (.cells (kcells y) 29)
    exact ⟨this.os, this.tape, this.output, this.size, this.block⟩
  have HX : Hid (IsKey x ∧ IsKey y) := ⟨hx, hy⟩
  clear hx hy
  unfold keyV
  go_enter Yba.func7, Yba.ntmps7
  go_wp2
  go_loopw [5, 6, 7] (fun i _ _ wr => ∃ m q : Nat, m ≤ 32 ∧ i = .int .i64 (m : Int) ∧ x.take m = y.take m ∧ wr = ((w.alloc (.cells (kcells x) 29)).alloc (.cells (kcells y) 29)).drewN q) (fun i _ _ _ => 32 - (intOf i).toNat)
  case atStart => exact ⟨0, 0, Nat.zero_le _, rfl, rfl, rfl⟩
  case round =>
    obtain ⟨m, q, hm, rfl, hpre, rfl⟩ := hrel
    by_cases hlt : m < 32
    · have hc := kcells_get x m (by rw [HX.out.1.len]; omega)
      have hd := kcells_get y m (by rw [HX.out.2.len]; omega)
      have hzx := byte_getD HX.out.1.byte m
      have hzy := byte_getD HX.out.2.byte m
      have hxor := bits_xor_u8_nat _ _ hzx hzy
      have ex : x = x.take m ++ (x.getD m 0 :: x.drop (m + 1)) := split_at x m (by rw [HX.out.1.len]; omega)
      have ey : y = y.take m ++ (y.getD m 0 :: y.drop (m + 1)) := split_at y m (by rw [HX.out.2.len]; omega)
      have HN : Hid (x.getD m 0 ≠ y.getD m 0 → cplN x y = 8 * m + (8 - Lib.bitLen (x.getD m 0 ^^^ y.getD m 0))) := by
        intro hne
        have : cplN x y = cplN (y.take m ++ (x.getD m 0 :: x.drop (m + 1))) (y.take m ++ (y.getD m 0 :: y.drop (m + 1))) := by rw [← ey, ← hpre, ← ex]
        rw [this, cplN_append, List.length_take, HX.out.2.len, Nat.min_eq_left (by omega), cplN, if_neg hne]
      have HE : Hid (x.getD m 0 = y.getD m 0 → x.take (m + 1) = y.take (m + 1)) := by
        intro he
        rw [take_snoc x m (by rw [HX.out.1.len]; omega), take_snoc y m (by rw [HX.out.2.len]; omega), he, hpre]
      clear hpre ex ey
      generalize x.getD m 0 = a at *
      generalize y.getD m 0 = b at *
      by_cases hab : a = b
      · subst hab
        have h0 : (a ^^^ a : Nat) = 0 := Nat.xor_self a
        rw [h0] at hxor
        have HE' : Hid (x.take (m + 1) = y.take (m + 1)) := HE.out rfl
        clear HE HN h0
        go_wp2
        go_quiet (fail)
        go_wp2
        go_roundw
        case rel => exact ⟨m + 1, _, by omega, by go_num, HE'.out, rfl⟩
        case measure => simp [intOf]; omega
      · have hx0 := xor_pos hab
        have hxl : a ^^^ b < 2 ^ 8 := Nat.xor_lt_two_pow (by omega) (by omega)
        have HN' : Hid (cplN x y = 8 * m + (8 - Lib.bitLen (a ^^^ b))) := HN.out hab
        clear HE HN hab hzx hzy
        generalize a ^^^ b = x0 at *
        have HX0 : Hid (x0 ≠ 0 ∧ x0 < 256) := ⟨hx0, hxl⟩
        go_wp2
        go_quiet (fail)
        go_wp2
        clear hc hd hxor hx0 hxl
        go_loop [6, 7] (fun v c => ∃ n : Nat, c = .int .i64 (n : Int) ∧ n < 8 ∧ v = .int .u8 ((x0 * 2 ^ n : Nat) : Int) ∧ x0 * 2 ^ n < 256) (fun _ c => 8 - (intOf c).toNat)
        case atStart => exact ⟨0, rfl, by omega, by simp, by have := HX0.out; omega⟩
        case round =>
          obtain ⟨n, rfl, hn, rfl, hv⟩ := hrel
          have hand := bits_and128 (x0 * 2 ^ n) hv
          have HS : Hid (x0 * 2 ^ (n + 1) = x0 * 2 ^ n * 2) := by
            have : x0 * 2 ^ (n + 1) = x0 * 2 ^ n * 2 := by rw [Nat.pow_succ, Nat.mul_assoc]
            exact this
          have HV : Hid (128 ≤ x0 * 2 ^ n → Lib.bitLen x0 = 8 - n) := fun h => bitLen_at x0 n HX0.out.2 hn h hv
          have HW : Hid (x0 * 2 ^ n < 128 → n + 1 < 8) := by
            intro h
            by_cases h7 : n = 7
            · subst h7; have := HX0.out.1; omega
            · omega
          generalize x0 * 2 ^ n = v at *
          by_cases h128 : v < 128
          · go_wp2
            refine ⟨⟨n + 1, by go_num, HW.out h128, ?_, ?_⟩, by simp only [intOf]; omega⟩
            · rw [HS.out]; go_num
            · rw [HS.out]; omega
          · have HV' : Hid (Lib.bitLen x0 = 8 - n) := HV.out (by omega)
            go_wp2
            go_ret
            exact ⟨by rw [HN'.out, HV'.out, show 8 - (8 - n) = n by omega]; go_num, HB.out _⟩
    · obtain rfl : m = 32 := by omega
      have HQ : Hid (cplN x y = 256) := by
        have e1 : x.take 32 = x := List.take_of_length_le (by rw [HX.out.1.len]; omega)
        have e2 : y.take 32 = y := List.take_of_length_le (by rw [HX.out.2.len]; omega)
        rw [e1, e2] at hpre
        have : cplN x y = 256 := by rw [hpre, cplN_self, HX.out.2.len]
        exact this
      clear hpre
      go_wp2
      go_ret
      exact ⟨by rw [HQ.out]; rfl, HB.out _⟩

/-- the worlds that are as w was below N -/
structure Past (N : Nat) (w : World) where
  val : World
  bel : Below N w val
theorem Past.some (N : Nat) (w : World) : Nonempty (Past N w) := ⟨⟨w, Below.refl N w⟩⟩
theorem past_world {P : Program} {id : Nat} {Q : Exit → Act → World → Prop} {a : Act} {w : World} {l : List Oper} (N : Nat) (hm : P.follows .mixedOrders = true) (hB : Region.lexB .any l.toArray = true)
    (h : wpQuiet P l.toArray (fun w' => ∃ z : Past N w, w' = z.val) (fun a' => ∀ w', (∃ z : Past N w, w' = z.val) → Q .normal a' w') l a) : (Code.region id l.toArray true).wp P Q a w :=
  wp_region_quiet (C := fun w' => ∃ z : Past N w, w' = z.val) hm hB ⟨⟨_, (Below.refl N w).drew⟩, rfl⟩ (by simpa using h)

theorem be64 (g o n c : Nat) (x : List Nat) (hx : IsKey x) (ho : o + 8 ≤ 32) (hn : 8 ≤ n) (w : World) (hc : ∀ i, i < 32 → w.cell? ⟨g, i, none⟩ = some (.int .u8 ((x.getD i 0 : Nat) : Int))) :
    Calls Yba.prog 21 #[.agg #[], .slice (some ⟨g, o, none⟩) n c] w fun e w' => e = .returned (.int .u64 ((beN ((x.drop o).take 8) : Nat) : Int)) ∧ Below w.heap.size w w' := by
  have h := Any.binary_BE_Uint64_z Yba.lays21 ⟨g, o, none⟩ n c (zs (x.drop o)) w hn (by rw [zs_length, List.length_drop, hx.len]; omega)
    (fun i hi => by
      rw [zs_length, List.length_drop, hx.len] at hi
      rw [Go.WideShapes.add_plain, zs_getD, hc (o + i) (by omega)]
      simp [List.getD_eq_getElem?_getD])
    (fun z hz => by
      obtain ⟨y, hy, rfl⟩ := List.mem_map.1 hz
      have := hx.byte.drop o y hy
      simp [Lit.wf, IntKind.min, IntKind.max, IntKind.bits, IntKind.signed]
      omega)
  rw [zs_take, beZ_eq] at h
  exact h

set_option maxRecDepth 100000 in
set_option maxHeartbeats 400000 in
theorem head_any (x : List Nat) (hx : IsKey x) (w : World) :
    Calls Yba.prog 23 #[keyV x] w fun e w' => e = .returned (.int .u64 ((beN (x.take 8) : Nat) : Int)) ∧ Below w.heap.size w w' := by
  have HB : Hid (Below w.heap.size w (w.alloc (.cells (kcells x) 29))) := (Below.refl _ _).alloc (Nat.le_refl _) _
  have HX : Hid (IsKey x) := hx
  have hbe : ∀ z : Past (w.heap.size + 1) (w.alloc (.cells (kcells x) 29)), Calls Yba.prog 21 #[.agg #[], .slice (some ⟨w.heap.size, 0, none⟩) 8 32] z.val fun e w' => e = .returned (.int .u64 ((beN (x.take 8) : Nat) : Int)) ∧ ∃ z' : Past (w.heap.size + 1) (w.alloc (.cells (kcells x) 29)), w' = z'.val := by
    intro z
    refine (be64 w.heap.size 0 8 32 x hx (by omega) (by omega) z.val (fun i hi => ?_)).mono ?_
    · rw [z.bel.cell (p := ⟨w.heap.size, i, none⟩) (by simp)]; exact kcell_new w x 29 i (by rw [hx.len]; omega)
    · rintro e w' ⟨rfl, hb⟩
      exact ⟨rfl, ⟨_, z.bel.trans (hb.mono (by have := z.bel.size; simp at this; omega))⟩, rfl⟩
  clear hx
  have hne := Past.some (w.heap.size + 1) (w.alloc (.cells (kcells x) 29))
  unfold keyV
  go_enter Yba.func23, Yba.ntmps23
  go_wp2
  refine past_world (w.heap.size + 1) (by kernel_rfl) (by kernel_rfl) ?_
  repeat (go_big_quiet_step (exact hbe _))
  refine wpQuiet_nil ?_
  rintro _ ⟨z, rfl⟩
  go_wp2
  go_ret
  exact ⟨rfl, HB.out.trans (z.bel.mono (by omega))⟩

theorem le64 (g o n c : Nat) (x : List Nat) (hx : IsKey x) (ho : o + 8 ≤ 32) (hn : 8 ≤ n) (w : World) (hc : ∀ i, i < 32 → w.cell? ⟨g, i, none⟩ = some (.int .u8 ((x.getD i 0 : Nat) : Int))) :
    Calls Yba.prog 26 #[.agg #[], .slice (some ⟨g, o, none⟩) n c] w fun e w' => e = .returned (.int .u64 ((leN ((x.drop o).take 8) : Nat) : Int)) ∧ Below w.heap.size w w' := by
  have h := Any.binary_LE_Uint64_z Yba.lays26 ⟨g, o, none⟩ n c (zs (x.drop o)) w hn (by rw [zs_length, List.length_drop, hx.len]; omega)
    (fun i hi => by
      rw [zs_length, List.length_drop, hx.len] at hi
      rw [Go.WideShapes.add_plain, zs_getD, hc (o + i) (by omega)]
      simp [List.getD_eq_getElem?_getD])
    (fun z hz => by
      obtain ⟨y, hy, rfl⟩ := List.mem_map.1 hz
      have := hx.byte.drop o y hy
      simp [Lit.wf, IntKind.min, IntKind.max, IntKind.bits, IntKind.signed]
      omega)
  rw [zs_take, leZ_eq] at h
  exact h

theorem lz64 (x : Nat) (hx : x < 18446744073709551616) (w : World) : Calls Yba.prog 22 #[.int .u64 (x : Int)] w fun e w' => e = .returned (.int .i64 ((64 - Lib.bitLen x : Nat) : Int)) ∧ w' = w := by
  have h := Any.bits_LeadingZeros64 Yba.lays22 (x : Int) w (by omega) (by omega)
  have hl := Lib.bitLen_le x 64 (by omega) (by omega)
  have e : (64 - (Lib.bitLen ((x : Int).toNat) : Int)) = ((64 - Lib.bitLen x : Nat) : Int) := by rw [Int.toNat_natCast]; omega
  rw [e] at h
  exact h

set_option maxRecDepth 100000 in
set_option maxHeartbeats 800000 in
theorem cpl_any (x y : List Nat) (hx : IsKey x) (hy : IsKey y) (w : World) :
    Calls Yba.prog 17 #[keyV x, keyV y] w fun e w' => e = .returned (.int .i64 ((cplN x y : Nat) : Int)) ∧ Below w.heap.size w w' := by
  obtain ⟨w2, hw2⟩ : ∃ w2, w2 = (w.alloc (.cells (kcells x) 29)).alloc (.cells (kcells y) 29) := ⟨_, rfl⟩
  have HB : Hid (Below w.heap.size w w2 ∧ w2.heap.size = w.heap.size + 2) := by
    rw [hw2]
    exact ⟨((Below.refl w.heap.size w).alloc (Nat.le_refl _) (.cells (kcells x) 29)).alloc (by simp) (.cells (kcells y) 29), by simp⟩
  have HX : Hid (IsKey x ∧ IsKey y) := ⟨hx, hy⟩
  have HC : Hid (∀ wr, Below (w.heap.size + 2) w2 wr → (∀ i, i < 32 → wr.cell? ⟨w.heap.size, i, none⟩ = some (.int .u8 ((x.getD i 0 : Nat) : Int))) ∧ (∀ i, i < 32 → wr.cell? ⟨w.heap.size + 1, i, none⟩ = some (.int .u8 ((y.getD i 0 : Nat) : Int)))) := by
    intro wr hb
    refine ⟨fun i hi => ?_, fun i hi => ?_⟩
    · rw [hb.cell (p := ⟨w.heap.size, i, none⟩) (by simp), hw2, World.cell?_of_block (Below.heap_alloc _ _ _ (by simp))]
      exact kcell_new w x 29 i (by rw [hx.len]; omega)
    · rw [hb.cell (p := ⟨w.heap.size + 1, i, none⟩) (by simp), hw2]
      have := kcell_new (w.alloc (.cells (kcells x) 29)) y 29 i (by rw [hy.len]; omega)
      simpa using this
  clear hx hy
  unfold keyV
  go_enter Yba.func17, Yba.ntmps17
  go_wp2
  rw [← hw2]
  clear hw2
  go_loopw [5, 6] (fun i _ wr => ∃ m : Nat, m ≤ 4 ∧ i = .int .i64 ((8 * m : Nat) : Int) ∧ x.take (8 * m) = y.take (8 * m) ∧ Below (w.heap.size + 2) w2 wr) (fun i _ _ => 32 - (intOf i).toNat)
  case atStart => exact ⟨0, Nat.zero_le _, rfl, rfl, Below.refl _ _⟩
  case round =>
    obtain ⟨m, hm, rfl, hpre, hbr⟩ := hrel
    by_cases hlt : m < 4
    · have hbx : ∀ (n c : Nat), 8 ≤ n → ∀ z : Past (w.heap.size + 2) wr, Calls Yba.prog 21 #[.agg #[], .slice (some ⟨w.heap.size, 8 * m, none⟩) n c] z.val fun e w' => e = .returned (.int .u64 ((beN (ch x m) : Nat) : Int)) ∧ ∃ z' : Past (w.heap.size + 2) wr, w' = z'.val := by
        intro n c hn z
        refine (be64 w.heap.size (8 * m) n c x HX.out.1 (by omega) hn z.val (HC.out z.val (hbr.trans z.bel)).1).mono ?_
        rintro e w' ⟨rfl, hb⟩
        exact ⟨rfl, ⟨_, z.bel.trans (hb.mono (by have := z.bel.size; have := hbr.size; have := HB.out.2; omega))⟩, rfl⟩
      have hby : ∀ (n c : Nat), 8 ≤ n → ∀ z : Past (w.heap.size + 2) wr, Calls Yba.prog 21 #[.agg #[], .slice (some ⟨w.heap.size + 1, 8 * m, none⟩) n c] z.val fun e w' => e = .returned (.int .u64 ((beN (ch y m) : Nat) : Int)) ∧ ∃ z' : Past (w.heap.size + 2) wr, w' = z'.val := by
        intro n c hn z
        refine (be64 (w.heap.size + 1) (8 * m) n c y HX.out.2 (by omega) hn z.val (HC.out z.val (hbr.trans z.bel)).2).mono ?_
        rintro e w' ⟨rfl, hb⟩
        exact ⟨rfl, ⟨_, z.bel.trans (hb.mono (by have := z.bel.size; have := hbr.size; have := HB.out.2; omega))⟩, rfl⟩
      have lx := beN_lt (ch x m) (ch_bytes HX.out.1.byte m)
      have ly := beN_lt (ch y m) (ch_bytes HX.out.2.byte m)
      rw [ch_len x HX.out.1.len m hlt] at lx
      rw [ch_len y HX.out.2.len m hlt] at ly
      have hxor := bits_xor_u64_nat _ _ (show beN (ch x m) < 18446744073709551616 by omega) (show beN (ch y m) < 18446744073709551616 by omega)
      have HQ : Hid (beN (ch x m) = beN (ch y m) → x.take (8 * (m + 1)) = y.take (8 * (m + 1))) := by
        intro he
        rw [take_ch, take_ch, hpre, beN_inj (ch x m) (ch y m) (by rw [ch_len x HX.out.1.len m hlt, ch_len y HX.out.2.len m hlt]) (by rw [ch_len x HX.out.1.len m hlt]; omega) (ch_bytes HX.out.1.byte m) (ch_bytes HX.out.2.byte m) he]
      have HN : Hid (beN (ch x m) ≠ beN (ch y m) → cplN x y = 64 * m + (64 - Lib.bitLen (beN (ch x m) ^^^ beN (ch y m)))) := fun hne => cpl_ch x y HX.out.1.len HX.out.2.len HX.out.1.byte HX.out.2.byte m hlt hpre hne
      have HR : Hid (Below (w.heap.size + 2) w2 wr) := hbr
      have hxl : beN (ch x m) ^^^ beN (ch y m) < 2 ^ 64 := Nat.xor_lt_two_pow (by omega) (by omega)
      clear hpre hbr lx ly
      have HI : Hid (8 * m = 8 * m) := rfl
      obtain ⟨I, hI⟩ : ∃ I : Nat, I = 8 * m := ⟨_, rfl⟩
      have hI32 : I + 8 ≤ 32 := by omega
      have HIm : Hid (I = 8 * m) := hI
      have hIi : (I : Int) ≤ 32 := by omega
      have hIn : ¬ (32 = I) := by omega
      rw [← hI] at hbx hby ⊢
      clear hI HI hlt
      generalize beN (ch x m) = a at *
      generalize beN (ch y m) = b at *
      have hne := Past.some (w.heap.size + 2) wr
      go_wp2
      refine past_world (w.heap.size + 2) (by kernel_rfl) (by kernel_rfl) ?_
      repeat (go_big_quiet_step (first | ((with_reducible refine hbx _ _ ?_ _); omega) | ((with_reducible refine hby _ _ ?_ _); omega)))
      refine wpQuiet_nil ?_
      rintro _ ⟨z, rfl⟩
      by_cases hab : a = b
      · subst hab
        have HQ' : Hid (x.take (8 * (m + 1)) = y.take (8 * (m + 1))) := HQ.out rfl
        clear HQ HN hbx hby
        clear hxor
        rw [Nat.xor_self]
        go_wp2
        go_roundw
        case rel => exact ⟨m + 1, by have := HIm.out; omega, by have := HIm.out; rw [show ((8 * (m + 1) : Nat) : Int) = (I : Int) + 8 by omega], HQ'.out, HR.out.trans z.bel⟩
        case measure => simp [intOf]; omega
      · have hx0 := xor_pos hab
        have HN' : Hid (cplN x y = 64 * m + (64 - Lib.bitLen (a ^^^ b))) := HN.out hab
        have hl := Lib.bitLen_le (a ^^^ b) 64 (by omega) hxl
        clear HQ HN hbx hby hxor
        generalize a ^^^ b = x0 at *
        have hlz := lz64 x0 (by omega)
        have hL64 : 64 - Lib.bitLen x0 ≤ 64 := by omega
        generalize 64 - Lib.bitLen x0 = L at *
        go_wp2_with (go_at_call 22; refine (hlz _).mono ?_; rintro e w' ⟨rfl, rfl⟩)
        go_ret
        exact ⟨by rw [HN'.out]; have := HIm.out; rw [show ((64 * m + L : Nat) : Int) = 8 * (I : Int) + (L : Int) by omega]; rfl, HB.out.1.trans ((HR.out.trans z.bel).mono (by omega))⟩
    · obtain rfl : m = 4 := by omega
      have HQ : Hid (cplN x y = 256) := by
        rw [take_all x HX.out.1.len, take_all y HX.out.2.len] at hpre
        have : cplN x y = 256 := by rw [hpre, cplN_self, HX.out.2.len]
        exact this
      have HR : Hid (Below (w.heap.size + 2) w2 wr) := hbr
      clear hpre hbr
      go_wp2
      go_ret
      exact ⟨by rw [HQ.out]; rfl, HB.out.1.trans (HR.out.mono (by omega))⟩

theorem ne_beq {a b : Nat} (h : ¬ a = b) : ((a : Int) == (b : Int)) = false := by
  simp; omega

set_option maxRecDepth 100000 in
set_option maxHeartbeats 3000000 in
theorem same_any (x y : List Nat) (hx : IsKey x) (hy : IsKey y) (w : World) :
    Calls Yba.prog 24 #[keyV x, keyV y] w fun e w' => e = .returned (.bool (decide (x = y))) ∧ Below w.heap.size w w' := by
  obtain ⟨w3, hw3⟩ : ∃ w3, w3 = ((w.alloc (.cells (kcells x) 29)).alloc (.cells (kcells y) 29)).alloc (.cells #[] 91) := ⟨_, rfl⟩
  have HB : Hid (Below w.heap.size w w3 ∧ w3.heap.size = w.heap.size + 3) := by
    rw [hw3]
    exact ⟨(((Below.refl w.heap.size w).alloc (Nat.le_refl _) (.cells (kcells x) 29)).alloc (by simp) (.cells (kcells y) 29)).alloc (by simp; omega) _, by simp⟩
  have cX : ∀ wr, Below (w.heap.size + 3) w3 wr → ∀ i, i < 32 → wr.cell? ⟨w.heap.size, i, none⟩ = some (.int .u8 ((x.getD i 0 : Nat) : Int)) := by
    intro wr hb i hi
    rw [hb.cell (p := ⟨w.heap.size, i, none⟩) (by simp), hw3, World.cell?_of_block (Below.heap_alloc _ _ _ (by simp; omega)), World.cell?_of_block (Below.heap_alloc _ _ _ (by simp))]
    exact kcell_new w x 29 i (by rw [hx.len]; omega)
  have cY : ∀ wr, Below (w.heap.size + 3) w3 wr → ∀ i, i < 32 → wr.cell? ⟨w.heap.size + 1, i, none⟩ = some (.int .u8 ((y.getD i 0 : Nat) : Int)) := by
    intro wr hb i hi
    rw [hb.cell (p := ⟨w.heap.size + 1, i, none⟩) (by simp), hw3, World.cell?_of_block (Below.heap_alloc _ _ _ (by simp))]
    have := kcell_new (w.alloc (.cells (kcells x) 29)) y 29 i (by rw [hy.len]; omega)
    simpa using this
  have hX : ∀ k, k < 4 → ∀ n c, 8 ≤ n → ∀ z : Past (w.heap.size + 3) w3, Calls Yba.prog 26 #[.agg #[], .slice (some ⟨w.heap.size, 8 * k, none⟩) n c] z.val fun e w' => e = .returned (.int .u64 ((leN (ch x k) : Nat) : Int)) ∧ ∃ z' : Past (w.heap.size + 3) w3, w' = z'.val := by
    intro k hk n c hn z
    refine (le64 w.heap.size (8 * k) n c x hx (by omega) hn z.val (cX z.val z.bel)).mono ?_
    rintro e w' ⟨rfl, hb⟩
    exact ⟨rfl, ⟨_, z.bel.trans (hb.mono (by have := z.bel.size; have := HB.out.2; omega))⟩, rfl⟩
  have hY : ∀ k, k < 4 → ∀ n c, 8 ≤ n → ∀ z : Past (w.heap.size + 3) w3, Calls Yba.prog 26 #[.agg #[], .slice (some ⟨w.heap.size + 1, 8 * k, none⟩) n c] z.val fun e w' => e = .returned (.int .u64 ((leN (ch y k) : Nat) : Int)) ∧ ∃ z' : Past (w.heap.size + 3) w3, w' = z'.val := by
    intro k hk n c hn z
    refine (le64 (w.heap.size + 1) (8 * k) n c y hy (by omega) hn z.val (cY z.val z.bel)).mono ?_
    rintro e w' ⟨rfl, hb⟩
    exact ⟨rfl, ⟨_, z.bel.trans (hb.mono (by have := z.bel.size; have := HB.out.2; omega))⟩, rfl⟩
  have hX0 := hX 0 (by omega) 32 32 (by omega)
  have hX1 := hX 1 (by omega) 24 24 (by omega)
  have hX2 := hX 2 (by omega) 16 16 (by omega)
  have hX3 := hX 3 (by omega) 8 8 (by omega)
  have hY0 := hY 0 (by omega) 32 32 (by omega)
  have hY1 := hY 1 (by omega) 24 24 (by omega)
  have hY2 := hY 2 (by omega) 16 16 (by omega)
  have hY3 := hY 3 (by omega) 8 8 (by omega)
  have HEq : Hid (∀ k, k < 4 → leN (ch x k) = leN (ch y k) → ch x k = ch y k) := fun k hk h => leN_inj _ _ (by rw [ch_len x hx.len k hk, ch_len y hy.len k hk]) (ch_bytes hx.byte k) (ch_bytes hy.byte k) h
  have HL : Hid (x.length = 32 ∧ y.length = 32) := ⟨hx.len, hy.len⟩
  have HNe : Hid (∀ k, ¬ leN (ch x k) = leN (ch y k) → decide (x = y) = false) := by
    intro k h
    simp only [decide_eq_false_iff_not]
    intro e; exact h (by rw [e])
  simp only [show 8 * 0 = 0 from rfl, show 8 * 1 = 8 from rfl, show 8 * 2 = 16 from rfl, show 8 * 3 = 24 from rfl] at hX0 hX1 hX2 hX3 hY0 hY1 hY2 hY3
  clear hX hY cX cY hx hy
  have hne := Past.some (w.heap.size + 3) w3
  have HN0 := HNe.out 0
  have HN1 := HNe.out 1
  have HN2 := HNe.out 2
  have HN3 := HNe.out 3
  have HE : Hid (leN (ch x 0) = leN (ch y 0) → leN (ch x 1) = leN (ch y 1) → leN (ch x 2) = leN (ch y 2) → leN (ch x 3) = leN (ch y 3) → decide (x = y) = true) := by
    intro e0 e1 e2 e3
    simp only [decide_eq_true_eq]
    refine same_ch x y HL.out.1 HL.out.2 fun k hk => HEq.out k hk ?_
    match k, hk with
    | 0, _ => exact e0
    | 1, _ => exact e1
    | 2, _ => exact e2
    | 3, _ => exact e3
  have HN : Hid ((¬ leN (ch x 0) = leN (ch y 0) → decide (x = y) = false) ∧ (¬ leN (ch x 1) = leN (ch y 1) → decide (x = y) = false) ∧ (¬ leN (ch x 2) = leN (ch y 2) → decide (x = y) = false) ∧ (¬ leN (ch x 3) = leN (ch y 3) → decide (x = y) = false)) := ⟨HN0, HN1, HN2, HN3⟩
  clear HN0 HN1 HN2 HN3 HNe HEq HL
  generalize leN (ch x 0) = a0 at *
  generalize leN (ch x 1) = a1 at *
  generalize leN (ch x 2) = a2 at *
  generalize leN (ch x 3) = a3 at *
  generalize leN (ch y 0) = b0 at *
  generalize leN (ch y 1) = b1 at *
  generalize leN (ch y 2) = b2 at *
  generalize leN (ch y 3) = b3 at *
  unfold keyV
  by_cases h0 : a0 = b0
  · subst h0
    by_cases h1 : a1 = b1
    · subst h1
      by_cases h2 : a2 = b2
      · subst h2
        by_cases h3 : a3 = b3
        · subst h3
          have HD : Hid (decide (x = y) = true) := HE.out rfl rfl rfl rfl
          clear HE HN
          go_enter Yba.func24, Yba.ntmps24
          go_wp2
          rw [← hw3]
          clear hw3
          refine past_world (w.heap.size + 3) (by kernel_rfl) (by kernel_rfl) ?_
          repeat (go_big_quiet_step (first | (with_reducible exact hX0 _) | (with_reducible exact hY0 _) | (with_reducible exact hX1 _) | (with_reducible exact hY1 _) | (with_reducible exact hX2 _) | (with_reducible exact hY2 _) | (with_reducible exact hX3 _) | (with_reducible exact hY3 _)))
          refine wpQuiet_nil ?_
          rintro _ ⟨z, rfl⟩
          go_wp2
          go_ret
          exact ⟨by rw [HD.out]; rfl, HB.out.1.trans (z.bel.mono (by omega))⟩
        · have q3 := ne_beq h3
          have HD : Hid (decide (x = y) = false) := HN.out.2.2.2 h3
          clear HE HN
          go_enter Yba.func24, Yba.ntmps24
          go_wp2
          rw [← hw3]
          clear hw3
          refine past_world (w.heap.size + 3) (by kernel_rfl) (by kernel_rfl) ?_
          repeat (go_big_quiet_step (first | (with_reducible exact hX0 _) | (with_reducible exact hY0 _) | (with_reducible exact hX1 _) | (with_reducible exact hY1 _) | (with_reducible exact hX2 _) | (with_reducible exact hY2 _) | (with_reducible exact hX3 _) | (with_reducible exact hY3 _)))
          refine wpQuiet_nil ?_
          rintro _ ⟨z, rfl⟩
          go_wp2
          go_ret
          exact ⟨by rw [HD.out]; rfl, HB.out.1.trans (z.bel.mono (by omega))⟩
      · have q2 := ne_beq h2
        have HD : Hid (decide (x = y) = false) := HN.out.2.2.1 h2
        clear HE HN
        go_enter Yba.func24, Yba.ntmps24
        go_wp2
        rw [← hw3]
        clear hw3
        refine past_world (w.heap.size + 3) (by kernel_rfl) (by kernel_rfl) ?_
        repeat (go_big_quiet_step (first | (with_reducible exact hX0 _) | (with_reducible exact hY0 _) | (with_reducible exact hX1 _) | (with_reducible exact hY1 _) | (with_reducible exact hX2 _) | (with_reducible exact hY2 _) | (with_reducible exact hX3 _) | (with_reducible exact hY3 _)))
        refine wpQuiet_nil ?_
        rintro _ ⟨z, rfl⟩
        go_wp2
        go_ret
        exact ⟨by rw [HD.out]; rfl, HB.out.1.trans (z.bel.mono (by omega))⟩
    · have q1 := ne_beq h1
      have HD : Hid (decide (x = y) = false) := HN.out.2.1 h1
      clear HE HN
      go_enter Yba.func24, Yba.ntmps24
      go_wp2
      rw [← hw3]
      clear hw3
      refine past_world (w.heap.size + 3) (by kernel_rfl) (by kernel_rfl) ?_
      repeat (go_big_quiet_step (first | (with_reducible exact hX0 _) | (with_reducible exact hY0 _) | (with_reducible exact hX1 _) | (with_reducible exact hY1 _) | (with_reducible exact hX2 _) | (with_reducible exact hY2 _) | (with_reducible exact hX3 _) | (with_reducible exact hY3 _)))
      refine wpQuiet_nil ?_
      rintro _ ⟨z, rfl⟩
      go_wp2
      go_ret
      exact ⟨by rw [HD.out]; rfl, HB.out.1.trans (z.bel.mono (by omega))⟩
  · have q0 := ne_beq h0
    have HD : Hid (decide (x = y) = false) := HN.out.1 h0
    clear HE HN
    go_enter Yba.func24, Yba.ntmps24
    go_wp2
    rw [← hw3]
    clear hw3
    refine past_world (w.heap.size + 3) (by kernel_rfl) (by kernel_rfl) ?_
    repeat (go_big_quiet_step (first | (with_reducible exact hX0 _) | (with_reducible exact hY0 _) | (with_reducible exact hX1 _) | (with_reducible exact hY1 _) | (with_reducible exact hX2 _) | (with_reducible exact hY2 _) | (with_reducible exact hX3 _) | (with_reducible exact hY3 _)))
    refine wpQuiet_nil ?_
    rintro _ ⟨z, rfl⟩
    go_wp2
    go_ret
    exact ⟨by rw [HD.out]; rfl, HB.out.1.trans (z.bel.mono (by omega))⟩
end Go.Proofs.Ybulkegxe
