import Derived.Test.YbulkehayDoorReady
import Derived.Deep.LoopGhost
namespace Go.Proofs.YbulkehayDoor
open Go.RowKit
set_option linter.unusedVariables false

/-- what loop 3 keeps -/
def Cnt3 (wc wr : World) (wd : Nat) (P M : Nat → Nat) (i : Nat) : Prop :=
  Row wr wc.heap.size 21 (crow wd (bitOf P) i) ∧ Row wr (wc.heap.size + 1) 21 (crow wd (fun i => bitOf P i && bitOf M i) i) ∧ wr.heap.size = wc.heap.size + 2 ∧ Below wc.heap.size wc wr

set_option maxRecDepth 100000 in
set_option maxHeartbeats 20000000 in
theorem walk' (a0 a1 a4 : Int) (x2 x3 : Option Addr) (l2 c2 l3 c3 : Nat) (z2 z3 : List Int) (marked short : Bool) (n W wd k nb : Nat) (w : World)
    (r2 : Raw w x2 l2 z2) (r3 : Raw w x3 l3 z3) (ht : Tab w) (hg : 0 < w.heap.size)
    (hn : a0 * 1237 % 6200 = (n : Int)) (hn2 : n < 6200) (b0 : 0 ≤ a0 ∧ a0 ≤ 65535) (hW : W = (n + 63) / 64) (hwd : wd = 1 + (n + 2047) / 2048)
    (hk : a1 % 3 = (k : Int)) (hk2 : k ≤ 2) (b1 : 0 ≤ a1 ∧ a1 ≤ 255) (hnb : (k : Int) + 1 + a1 / 3 % 2 = (nb : Int)) (hkn : k < nb) (hnb2 : nb ≤ 4) (b4 : 0 ≤ a4 ∧ a4 ≤ 4294967295) :
    Calls Ybad.prog 3 #[.int .u16 a0, .int .u8 a1, .slice x2 l2 c2, .slice x3 l3 c3, .int .u32 a4, .bool marked, .bool short] w fun e w' => e = .returned (.bool true) ∧ Below w.heap.size w w' := by
  obtain ⟨b00, b01⟩ := b0
  obtain ⟨b10, b11⟩ := b1
  obtain ⟨b40, b41⟩ := b4
  have hWi : ((n : Int) + 63) / 64 = (W : Int) := by omega
  have hwi : 1 + ((n : Int) + 2048 - 1) / 2048 = (wd : Int) := by omega
  have hW97 : W ≤ 97 := by omega
  have hwd5 : wd ≤ 5 := by omega
  have hm25 := make25 W (by omega)
  have Hn : Hid (W = (n + 63) / 64 ∧ wd = 1 + (n + 2047) / 2048) := ⟨hW, hwd⟩
  have R2 : Hid (Raw w x2 l2 z2) := r2
  have R3 : Hid (Raw w x3 l3 z3) := r3
  have HT : Hid (Tab w) := ht
  clear hW hwd r2 r3 ht
  go_enter Ybad.func3, Ybad.ntmps3
  go_upto_block 0 with fail
  simp only [hWi]
  clear hWi hwi hn hk hnb b00 b01 b10 b11
  go_cut [21] from 74 to 85 (fun i wx => (∃ i' : Int, i = .int .i64 i') ∧ Row wx w.heap.size 26 (fill W .u64 (fun j => (wordOf z2 j n : Int))) ∧ wx.heap.size = w.heap.size + 1 ∧ Below w.heap.size w wx)
  case first => as_aux_lemma =>
    go_wp2_with fail
    go_loopg [21] W (fun g i wr => ∃ i' : Nat, i = .int .i64 (i' : Int) ∧ i' ≤ W ∧ W - i' ≤ g ∧ Row wr w.heap.size 26 (fill W .u64 (fun j => if j < i' then (wordOf z2 j n : Int) else 0)) ∧ wr.heap.size = w.heap.size + 1 ∧ Below w.heap.size w wr)
    case atStart =>
      refine ⟨0, rfl, Nat.zero_le _, Nat.le_refl _, ?_, by simp, (Below.refl _ _).alloc (Nat.le_refl _) _⟩
      have := Row.made w 26 .u64 W
      exact this
    case round =>
      obtain ⟨i, rfl, hi, hgh, hrow, hsz, hb⟩ := hrel
      by_cases hlt : i < W
      · have hw := word_any (R2.out.below hb (Nat.le_refl _)) c2 i n (by have := Hn.out; omega) (by omega)
        have hcell := hrow.cell i _ (fill_get _ _ hlt)
        have hfro := hrow.frozen i
        have HX : Hid (Row wr w.heap.size 26 (fill W .u64 (fun j => if j < i then (wordOf z2 j n : Int) else 0)) ∧ wr.heap.size = w.heap.size + 1 ∧ Below w.heap.size w wr) := ⟨hrow, hsz, hb⟩
        rw [if_neg (Nat.lt_irrefl i)] at hcell
        clear hrow hsz hb
        generalize hx : wordOf z2 i n = x at *
        have Hx : Hid (wordOf z2 i n = x) := hx
        clear hx
        go_wp2_with (go_at_call 4; refine hw.mono ?_; rintro e w'' ⟨rfl, rfl⟩)
        go_roundg (W - (i + 1))
        case measure => omega
        case rel =>
          obtain ⟨q1, q2, q3⟩ := HX.out
          refine ⟨i + 1, by go_num, by omega, Nat.le_refl _, ?_, by simp [World.setCell, q2], q3.setCell (by simp) _⟩
          have := q1.setCell i (.int .u64 (x : Int))
          rw [fill_set] at this
          rw [fill_congr (g := fun j => if j = i then (x : Int) else if j < i then (wordOf z2 j n : Int) else 0)]
          · exact this
          · intro j hj
            by_cases e : j = i
            · subst e; simp [Hx.out]
            · simp only [e, if_false]
              by_cases e2 : j < i
              · rw [if_pos e2, if_pos (by omega)]
              · rw [if_neg e2, if_neg (by omega)]
      · go_wp2
        go_meet
        case rel =>
          refine ⟨⟨_, rfl⟩, ?_, hsz, hb⟩
          rw [fill_congr (g := fun j => if j < i then (wordOf z2 j n : Int) else 0)]
          · exact hrow
          · intro j hj; rw [if_pos (by omega)]
  case rest => as_aux_lemma =>
    obtain ⟨⟨i0, rfl⟩, hrow, hsz, hb⟩ := hcut
    have HA : Hid (Row wc w.heap.size 26 (fill W .u64 (fun j => (wordOf z2 j n : Int))) ∧ wc.heap.size = w.heap.size + 1 ∧ Below w.heap.size w wc) := ⟨hrow, hsz, hb⟩
    clear hrow hsz hb
    go_upto_if 88 with fail
    go_cut [22, 23, 24] from 86 to 110 (fun mv _ _ wx => ∃ mo ml, mv = .slice mo ml ml ∧ MarksAt wx w.heap.size mo ml W z3 (markOf z2 z3 n short) ∧ Row wx w.heap.size 26 (fill W .u64 (fun j => (wordOf z2 j n : Int))) ∧ w.heap.size < wx.heap.size ∧ Below w.heap.size w wx)
    case first => as_aux_lemma =>
      obtain ⟨hrow, hsz, hb⟩ := HA.out
      have hl3 := R3.out.2.1
      by_cases h3 : l3 = 0
      · subst h3
        go_wp2
        go_meet
        case rel => exact ⟨none, 0, rfl, Or.inl ⟨hl3, rfl, rfl⟩, hrow, by omega, hb⟩
      · have h30 : 0 < l3 := by omega
        have hl3b := R3.out.2.2.1
        have HA2 : Hid (Row wc w.heap.size 26 (fill W .u64 (fun j => (wordOf z2 j n : Int))) ∧ wc.heap.size = w.heap.size + 1 ∧ Below w.heap.size w wc) := HA
        have H3 : Hid (¬ l3 = 0) := h3
        clear hrow hsz hb HA
        go_wp2_with fail
        clear h3 h30 hl3b
        rename_i hh
        clear hh
        go_loopg [23, 24] W (fun g i _ wr => ∃ i' : Nat, i = .int .i64 (i' : Int) ∧ i' ≤ W ∧ W - i' ≤ g ∧ Row wr wc.heap.size 26 (fill W .u64 (fun j => if j < i' then (markOf z2 z3 n short j : Int) else 0)) ∧ Row wr w.heap.size 26 (fill W .u64 (fun j => (wordOf z2 j n : Int))) ∧ wc.heap.size < wr.heap.size ∧ Below w.heap.size w wr)
        case atStart =>
          obtain ⟨hrow, hsz, hb⟩ := HA2.out
          refine ⟨0, rfl, Nat.zero_le _, Nat.le_refl _, ?_, hrow.alloc _, by simp, hb.alloc (by omega) _⟩
          have := Row.made wc 26 .u64 W
          exact this
        case round =>
          obtain ⟨i, rfl, hi, hgh, hrow, hpc, hsz, hb⟩ := hrel
          have hws := HA2.out.2.1
          have hne : ¬ wc.heap.size = w.heap.size := by omega
          have hne' : ¬ w.heap.size = wc.heap.size := by omega
          by_cases hlt : i < W
          · have hw := word_any (R3.out.below hb (Nat.le_refl _)) c3 i n (by have := Hn.out; omega) (by omega)
            have hcell := hrow.cell i _ (fill_get _ _ hlt)
            have hfro := hrow.frozen i
            have hpcell := hpc.cell i _ (fill_get _ _ hlt)
            rw [if_neg (Nat.lt_irrefl i)] at hcell
            have HX : Hid (Row wr wc.heap.size 26 (fill W .u64 (fun j => if j < i then (markOf z2 z3 n short j : Int) else 0)) ∧ Row wr w.heap.size 26 (fill W .u64 (fun j => (wordOf z2 j n : Int))) ∧ wc.heap.size < wr.heap.size ∧ Below w.heap.size w wr) := ⟨hrow, hpc, hsz, hb⟩
            have hmk : markOf z2 z3 n short i = bif short then wordOf z3 i n &&& (18446744073709551615 - wordOf z2 i n) else wordOf z3 i n := by
              unfold markOf; rw [if_neg (by have := H3.out; omega)]
            have hann := bits_andNot_u64_nat _ _ (wordOf_lt z3 R3.out.1 i n) (wordOf_lt z2 R2.out.1 i n)
            have Hx : Hid (∀ (w1 : World) (y : Nat), markOf z2 z3 n short i = y → w1 = wr.setCell ⟨wc.heap.size, i, none⟩ (.int .u64 (y : Int)) → Row w1 wc.heap.size 26 (fill W .u64 (fun j => if j < i + 1 then (markOf z2 z3 n short j : Int) else 0)) ∧ Row w1 w.heap.size 26 (fill W .u64 (fun j => (wordOf z2 j n : Int))) ∧ wc.heap.size < w1.heap.size ∧ Below w.heap.size w w1) := by
              intro w1 y hy hw1
              subst hw1
              refine ⟨?_, hpc.setOther _ _ (by simp; omega), by simp [World.setCell]; exact hsz, hb.setCell (by simp; omega) _⟩
              have := hrow.setCell i (.int .u64 (y : Int))
              rw [fill_set] at this
              rw [fill_congr (g := fun j => if j = i then (y : Int) else if j < i then (markOf z2 z3 n short j : Int) else 0)]
              · exact this
              · intro j hj
                by_cases e : j = i
                · subst e; simp [hy]
                · simp only [e, if_false]
                  by_cases e2 : j < i
                  · rw [if_pos e2, if_pos (by omega)]
                  · rw [if_neg e2, if_neg (by omega)]
            clear hrow hsz hb hpc hws
            have Hmk : Hid (markOf z2 z3 n short i = bif short then wordOf z3 i n &&& (18446744073709551615 - wordOf z2 i n) else wordOf z3 i n) := hmk
            clear hmk
            cases short with
            | true =>
              generalize wordOf z3 i n = x at *
              generalize wordOf z2 i n = y at *
              go_wp2_with (go_at_call 4; refine hw.mono ?_; rintro e w'' ⟨rfl, rfl⟩)
              go_roundg (W - (i + 1))
              case measure => omega
              case rel => exact ⟨i + 1, by go_num, by omega, Nat.le_refl _, Hx.out _ _ Hmk.out rfl⟩
            | false =>
              generalize wordOf z3 i n = x at *
              generalize wordOf z2 i n = y at *
              go_wp2_with (go_at_call 4; refine hw.mono ?_; rintro e w'' ⟨rfl, rfl⟩)
              go_roundg (W - (i + 1))
              case measure => omega
              case rel => exact ⟨i + 1, by go_num, by omega, Nat.le_refl _, Hx.out _ _ Hmk.out rfl⟩
          · have HX : Hid (Row wr wc.heap.size 26 (fill W .u64 (fun j => if j < i then (markOf z2 z3 n short j : Int) else 0)) ∧ Row wr w.heap.size 26 (fill W .u64 (fun j => (wordOf z2 j n : Int))) ∧ wc.heap.size < wr.heap.size ∧ Below w.heap.size w wr) := ⟨hrow, hpc, hsz, hb⟩
            clear hrow hpc hsz hb
            go_wp2
            go_meet
            case rel =>
              obtain ⟨q1, q2, q3, q4⟩ := HX.out
              refine ⟨_, _, rfl, Or.inr ⟨by have := H3.out; omega, rfl, wc.heap.size, by omega, rfl, ?_⟩, q2, by omega, q4⟩
              rw [fill_congr (g := fun j => if j < i then (markOf z2 z3 n short j : Int) else 0)]
              · exact q1
              · intro j hj; rw [if_pos (by omega)]
    case rest => as_aux_lemma =>
      clear HA
      obtain ⟨mo, ml, rfl, hM, hpc, hsz, hb⟩ := hcut
      have HM : Hid (MarksAt wc w.heap.size mo ml W z3 (markOf z2 z3 n short) ∧ Row wc w.heap.size 26 (fill W .u64 (fun j => (wordOf z2 j n : Int))) ∧ w.heap.size < wc.heap.size ∧ Below w.heap.size w wc) := ⟨hM, hpc, hsz, hb⟩
      clear hM hpc hsz hb
      have hnil := nil25
      go_upto_region 21 with fail
      go_cut [25] from 111 to 115 (fun u wx => u = .bool (short || mo.isNone) ∧ wc = wx)
      case first => as_aux_lemma =>
        cases short with
        | true =>
          go_wp2
          go_meet
          case rel => exact ⟨by simp, rfl⟩
        | false =>
          go_wp2
          go_meet
          case rel => exact ⟨by simp, rfl⟩
      case rest => as_aux_lemma =>
        obtain ⟨rfl, rfl⟩ := hcut
        clear hnil
        obtain ⟨wb, rfl⟩ : ∃ x : World, x = wc := ⟨wc, rfl⟩
        have hm29 := make29 wd (by omega)
        obtain ⟨P, hP⟩ : ∃ P : Nat → Nat, P = fun j => wordOf z2 j n := ⟨_, rfl⟩
        obtain ⟨M, hM⟩ : ∃ M : Nat → Nat, M = markOf z2 z3 n short := ⟨_, rfl⟩
        have HPM : Hid (P = (fun j => wordOf z2 j n) ∧ M = markOf z2 z3 n short) := ⟨hP, hM⟩
        clear hP hM
        have hbP : ∀ i, i < n → ∀ wr, Cnt3 wb wr wd P M i → Calls Ybad.prog 5 #[.slice (some ⟨w.heap.size, 0, none⟩) W W, .int .i64 (i : Int)] wr fun e w' => e = .returned (.bool (bitOf P i)) ∧ wr = w' := by
          intro i hi wr hr
          have hh := Hn.out
          rw [HPM.out.1]
          refine (bit_some w.heap.size W i _ wr (by omega) (by omega) (wordOf_lt z2 R2.out.1 (i / 64) n) ((HM.out.2.1.below hr.2.2.2 HM.out.2.2.1).cell _ _ (fill_get _ _ (by omega)))).mono ?_
          rintro e w' ⟨rfl, rfl⟩
          exact ⟨rfl, rfl⟩
        have hbM : ∀ i, i < n → ∀ wr, Below wb.heap.size wb wr → Calls Ybad.prog 5 #[.slice mo ml ml, .int .i64 (i : Int)] wr fun e w' => e = .returned (.bool (bitOf M i)) ∧ wr = w' := by
          intro i hi wr hr
          rw [HPM.out.2]
          have hm : MarksAt wr w.heap.size mo ml W z3 (markOf z2 z3 n short) := by
            rcases HM.out.1 with h | ⟨h1, h2, g, h3, h4, h5⟩
            · exact Or.inl h
            · exact Or.inr ⟨h1, h2, g, h3, h4, h5.below hr h5.lt⟩
          refine (hm.bit R3.out.1 (by omega) Hn.out.1 i hi).mono ?_
          rintro e w' ⟨rfl, rfl⟩
          exact ⟨rfl, rfl⟩
        have HbP : Hid (∀ i, i < n → ∀ wr, Cnt3 wb wr wd P M i → Calls Ybad.prog 5 #[.slice (some ⟨w.heap.size, 0, none⟩) W W, .int .i64 (i : Int)] wr fun e w' => e = .returned (.bool (bitOf P i)) ∧ wr = w') := hbP
        have HbM : Hid (∀ i, i < n → ∀ wr, Below wb.heap.size wb wr → Calls Ybad.prog 5 #[.slice mo ml ml, .int .i64 (i : Int)] wr fun e w' => e = .returned (.bool (bitOf M i)) ∧ wr = w') := hbM
        clear hbP hbM
        go_upto_block 4 with fail
        go_cut [28, 29, 30] from 120 to 163 (fun ft _ _ wx => ft = .int .i64 ((cnt (fun i => bitOf P i && (bitOf M i == marked)) n : Nat) : Int) ∧ Cnt3 wb wx wd P M n)
        case first => as_aux_lemma =>
          go_wp2_with fail
          go_loopg [28, 29, 30] n (fun g ft i _ wr => ∃ i' : Nat, i = .int .i64 (i' : Int) ∧ i' ≤ n ∧ n - i' ≤ g ∧ ft = .int .i64 ((cnt (fun i => bitOf P i && (bitOf M i == marked)) i' : Nat) : Int) ∧ Cnt3 wb wr wd P M i')
          case atStart =>
            refine ⟨0, rfl, Nat.zero_le _, Nat.le_refl _, rfl, ?_, ?_, by simp, ((Below.refl _ _).alloc (Nat.le_refl _) _).alloc (by simp) _⟩
            · exact (Row.crow0 wb wd _).alloc _
            · have := Row.crow0 (wb.alloc (.cells (madeCells #[.int .i32 0] wd) 21)) wd (fun i => bitOf P i && bitOf M i)
              simpa using this
          case round =>
            obtain ⟨i, rfl, hi, hgh, rfl, hcn⟩ := hrel
            have HC : Hid (Cnt3 wb wr wd P M i) := hcn
            by_cases hlt : i < n
            · have hbp := HbP.out i hlt wr hcn
              obtain ⟨r1, r2, r3, r4⟩ := hcn
              have hq1 : 1 + i / 2048 < wd := by have := Hn.out.2; omega
              have e0 := r1.cell 0 _ (fill_get _ _ (by omega))
              have e1 := r1.cell (1 + i / 2048) _ (fill_get _ _ hq1)
              have f0 := r1.frozen 0
              have f1 := r1.frozen (1 + i / 2048)
              have d0 := r2.cell 0 _ (fill_get _ _ (by omega))
              have d1 := r2.cell (1 + i / 2048) _ (fill_get _ _ hq1)
              have k0 := r2.frozen 0
              have k1 := r2.frozen (1 + i / 2048)
              have l0 := cntRow_le (bitOf P) i 0
              have l1 := cntRow_le (bitOf P) i (1 + i / 2048)
              have j0 := cntRow_le (fun i => bitOf P i && bitOf M i) i 0
              have j1 := cntRow_le (fun i => bitOf P i && bitOf M i) i (1 + i / 2048)
              have hcl := cnt_le (fun i => bitOf P i && (bitOf M i == marked)) i
              have hqi : (i : Int) / 2048 = ((i / 2048 : Nat) : Int) := by omega
              have hqn : ¬ (1 + i / 2048 = 0) := by omega
              have hqn' : ¬ (0 = 1 + i / 2048) := by omega
              have hr3 : wr.heap.size = wb.heap.size + 2 := r3
              have N0 : Hid (bitOf P i = false → Cnt3 wb wr wd P M (i + 1)) := by
                intro h
                refine ⟨?_, ?_, r3, r4⟩
                · rw [crow_off h]; exact r1
                · rw [crow_off (by simp [h])]; exact r2
              have hbm1 := HbM.out i hlt ((wr.setCell ⟨wb.heap.size, 0, none⟩ (.int .i32 ((cntRow (bitOf P) i 0 : Int) + 1))).setCell ⟨wb.heap.size, 1 + i / 2048, none⟩ (.int .i32 ((cntRow (bitOf P) i (1 + i / 2048) : Int) + 1))) ((r4.setCell (by simp) _).setCell (by simp) _)
              have N1 : Hid (bitOf P i = true → bitOf M i = false → Cnt3 wb ((wr.setCell ⟨wb.heap.size, 0, none⟩ (.int .i32 ((cntRow (bitOf P) i 0 : Int) + 1))).setCell ⟨wb.heap.size, 1 + i / 2048, none⟩ (.int .i32 ((cntRow (bitOf P) i (1 + i / 2048) : Int) + 1))) wd P M (i + 1)) := by
                intro h h2
                refine ⟨r1.bump h, ?_, by simp [World.setCell, r3], (r4.setCell (by simp) _).setCell (by simp) _⟩
                rw [crow_off (by simp [h2])]; exact (r2.setOther _ _ (by simp)).setOther _ _ (by simp)
              have N2 : Hid (bitOf P i = true → bitOf M i = true → Cnt3 wb ((((wr.setCell ⟨wb.heap.size, 0, none⟩ (.int .i32 ((cntRow (bitOf P) i 0 : Int) + 1))).setCell ⟨wb.heap.size, 1 + i / 2048, none⟩ (.int .i32 ((cntRow (bitOf P) i (1 + i / 2048) : Int) + 1))).setCell ⟨wb.heap.size + 1, 0, none⟩ (.int .i32 ((cntRow (fun i => bitOf P i && bitOf M i) i 0 : Int) + 1))).setCell ⟨wb.heap.size + 1, 1 + i / 2048, none⟩ (.int .i32 ((cntRow (fun i => bitOf P i && bitOf M i) i (1 + i / 2048) : Int) + 1))) wd P M (i + 1)) := by
                intro h h2
                refine ⟨((r1.bump h).setOther _ _ (by simp)).setOther _ _ (by simp), ?_, by simp [World.setCell, r3], ((((r4.setCell (by simp) _).setCell (by simp) _).setCell (by simp) _).setCell (by simp) _)⟩
                exact ((r2.setOther _ _ (by simp)).setOther _ _ (by simp)).bump (by simp [h, h2])
              have HCn : Hid (cnt (fun i => bitOf P i && (bitOf M i == marked)) (i + 1) = cnt (fun i => bitOf P i && (bitOf M i == marked)) i + (bitOf P i && (bitOf M i == marked)).toNat) := rfl
              clear r1 r2 r3 r4 HC
              generalize cntRow (bitOf P) i 0 = x0 at *
              generalize cntRow (bitOf P) i (1 + i / 2048) = x1 at *
              generalize cntRow (fun i => bitOf P i && bitOf M i) i 0 = y0 at *
              generalize cntRow (fun i => bitOf P i && bitOf M i) i (1 + i / 2048) = y1 at *
              generalize hfc : cnt (fun i => bitOf P i && (bitOf M i == marked)) i = fc at *
              generalize i / 2048 = q at *
              clear hfc
              have hct : ∀ b : Bool, (bitOf P i && (bitOf M i == marked)) = b → cnt (fun i => bitOf P i && (bitOf M i == marked)) (i + 1) = fc + b.toNat := by
                intro b hb
                have := HCn.out; rw [hb] at this; exact this
              clear HCn
              cases hPi : bitOf P i with
              | false =>
                rw [hPi] at hbp
                have HN : Hid (Cnt3 wb wr wd P M (i + 1)) := N0.out hPi
                have HF : Hid (cnt (fun i => bitOf P i && (bitOf M i == marked)) (i + 1) = fc) := hct false (by rw [hPi]; rfl)
                clear N0 N1 N2 hct hPi hbm1
                go_wp2_with (go_at_call 5; first | ((with_reducible refine hbp.mono ?_); rintro e w'' ⟨rfl, rfl⟩) | ((with_reducible refine hbm1.mono ?_); rintro e w'' ⟨rfl, rfl⟩))
                go_roundg (n - (i + 1))
                case measure => omega
                case rel => exact ⟨i + 1, by go_num, by omega, Nat.le_refl _, by rw [HF.out], HN.out⟩
              | true =>
                rw [hPi] at hbp
                clear N0
                cases hMi : bitOf M i with
                | false =>
                  rw [hMi] at hbm1
                  have HN := N1.out hPi hMi
                  have HN' : Hid (_) := HN
                  clear HN N1 N2
                  cases marked with
                  | true =>
                    have HF : Hid (cnt (fun i => bitOf P i && (bitOf M i == true)) (i + 1) = fc) := hct false (by rw [hPi, hMi]; rfl)
                    clear hct hPi hMi
                    go_wp2_with (go_at_call 5; first | ((with_reducible refine hbp.mono ?_); rintro e w'' ⟨rfl, rfl⟩) | ((with_reducible refine hbm1.mono ?_); rintro e w'' ⟨rfl, rfl⟩))
                    go_roundg (n - (i + 1))
                    case measure => omega
                    case rel => exact ⟨i + 1, by go_num, by omega, Nat.le_refl _, by rw [HF.out], HN'.out⟩
                  | false =>
                    have HF : Hid (cnt (fun i => bitOf P i && (bitOf M i == false)) (i + 1) = fc + 1) := hct true (by rw [hPi, hMi]; rfl)
                    clear hct hPi hMi
                    go_wp2_with (go_at_call 5; first | ((with_reducible refine hbp.mono ?_); rintro e w'' ⟨rfl, rfl⟩) | ((with_reducible refine hbm1.mono ?_); rintro e w'' ⟨rfl, rfl⟩))
                    go_roundg (n - (i + 1))
                    case measure => omega
                    case rel => exact ⟨i + 1, by go_num, by omega, Nat.le_refl _, by rw [HF.out]; go_num, HN'.out⟩
                | true =>
                  rw [hMi] at hbm1
                  have HN := N2.out hPi hMi
                  have HN' : Hid (_) := HN
                  clear HN N1 N2
                  cases marked with
                  | true =>
                    have HF : Hid (cnt (fun i => bitOf P i && (bitOf M i == true)) (i + 1) = fc + 1) := hct true (by rw [hPi, hMi]; rfl)
                    clear hct hPi hMi
                    go_wp2_with (go_at_call 5; first | ((with_reducible refine hbp.mono ?_); rintro e w'' ⟨rfl, rfl⟩) | ((with_reducible refine hbm1.mono ?_); rintro e w'' ⟨rfl, rfl⟩))
                    go_roundg (n - (i + 1))
                    case measure => omega
                    case rel => exact ⟨i + 1, by go_num, by omega, Nat.le_refl _, by rw [HF.out]; go_num, HN'.out⟩
                  | false =>
                    have HF : Hid (cnt (fun i => bitOf P i && (bitOf M i == false)) (i + 1) = fc) := hct false (by rw [hPi, hMi]; rfl)
                    clear hct hPi hMi
                    go_wp2_with (go_at_call 5; first | ((with_reducible refine hbp.mono ?_); rintro e w'' ⟨rfl, rfl⟩) | ((with_reducible refine hbm1.mono ?_); rintro e w'' ⟨rfl, rfl⟩))
                    go_roundg (n - (i + 1))
                    case measure => omega
                    case rel => exact ⟨i + 1, by go_num, by omega, Nat.le_refl _, by rw [HF.out], HN'.out⟩
            · obtain rfl : i = n := by omega
              go_wp2
              go_meet
              case rel => exact ⟨rfl, hcn⟩
        case rest => as_aux_lemma =>
          obtain ⟨rfl, hC⟩ := hcut
          have H4 : Hid (At4 w wc n W wd P M z3 mo ml wb.heap.size (wb.heap.size + 1)) := by
            obtain ⟨q1, q2, q3, q4⟩ := HM.out
            obtain ⟨c1, c2, c3, c4⟩ := hC
            refine ⟨?_, ?_, c1, c2, by omega, by omega, q4.trans (c4.mono (by omega))⟩
            · rw [HPM.out.2]; exact q1.below c4
            · rw [HPM.out.1]; exact q2.below c4 q3
          have HG : Hid (0 < w.heap.size) := hg
          clear hC HbP HbM HM hm25 hm29 hg
          obtain ⟨we, rfl⟩ : ∃ x : World, x = wc := ⟨wc, rfl⟩
          have hm31 := make31 nb (by omega)
          have hm25 := make25 W (by omega)
          have hm29 := make29 wd (by omega)
          go_upto_block 6 with fail
          go_cut [32] from 166 to 187 (fun _ wx => Buckets wx we.heap.size nb k nb w.heap.size W wb.heap.size wd ∧ Below we.heap.size we wx)
          case first => as_aux_lemma =>
            go_wp2_with fail
            go_loopg [32] nb (fun g b wr => ∃ b' : Nat, b = .int .i64 (b' : Int) ∧ b' ≤ nb ∧ nb - b' ≤ g ∧ Buckets wr we.heap.size nb k b' w.heap.size W wb.heap.size wd ∧ Below we.heap.size we wr)
            case atStart =>
              exact ⟨0, rfl, Nat.zero_le _, Nat.le_refl _, Buckets.start we nb k _ _ _ _, (Below.refl _ _).alloc (Nat.le_refl _) _⟩
            case round =>
              obtain ⟨b, rfl, hb, hgh, hB, hbl⟩ := hrel
              have HB : Hid (Buckets wr we.heap.size nb k b w.heap.size W wb.heap.size wd ∧ Below we.heap.size we wr) := ⟨hB, hbl⟩
              by_cases hlt : b < nb
              · obtain ⟨u, v, e0, e1, f0, f1⟩ := hB.cells b hlt
                have hlw := hB.lt
                clear hB hbl
                by_cases hbk : b = k
                · subst hbk
                  go_wp2
                  go_roundg (nb - (b + 1))
                  case measure => omega
                  case rel => exact ⟨b + 1, by go_num, by omega, Nat.le_refl _, HB.out.1.hit hlt, (HB.out.2.setCell (Nat.le_refl _) _).setCell (Nat.le_refl _) _⟩
                · have HK : Hid (¬ b = k) := hbk
                  go_wp2
                  clear hbk
                  go_region
                  all_goals go_wp2
                  · go_roundg (nb - (b + 1))
                    case measure => omega
                    case rel => exact ⟨b + 1, by go_num, by omega, Nat.le_refl _, Buckets.step HB.out HK.out hlw _ _ _ _⟩
                  · go_roundg (nb - (b + 1))
                    case measure => omega
                    case rel => exact ⟨b + 1, by go_num, by omega, Nat.le_refl _, Buckets.step HB.out HK.out hlw _ _ _ _⟩
              · obtain rfl : b = nb := by omega
                clear hB hbl
                go_wp2
                go_meet
                case rel => exact HB.out
          case rest => as_aux_lemma =>
            obtain ⟨hB, hbl⟩ := hcut
            have H5 : Hid (At4 w wc n W wd P M z3 mo ml wb.heap.size (wb.heap.size + 1) ∧ Buckets wc we.heap.size nb k nb w.heap.size W wb.heap.size wd) := ⟨H4.out.below hbl, hB⟩
            clear H4 hB hbl hm31
            have hkw : (k : Int) * (wd : Int) = ((k * wd : Nat) : Int) := by rw [Int.natCast_mul]
            have hkw2 : ((k : Int) + 1) * (wd : Int) = ((k * wd + wd : Nat) : Int) := by rw [Int.natCast_add, Int.natCast_mul, Int.add_mul, Int.one_mul]
            have hD : k * wd ≤ 10 := Nat.mul_le_mul hk2 hwd5
            have hwd1 : 1 ≤ wd := by have := Hn.out; omega
            obtain ⟨us, hus⟩ : ∃ us : Bool, us = (short || mo.isNone) := ⟨_, rfl⟩
            have Hus : Hid (us = (short || mo.isNone)) := hus
            rw [← hus]
            clear hus
            obtain ⟨D, hDD⟩ : ∃ D : Nat, D = k * wd := ⟨_, rfl⟩
            have HD : Hid (D = k * wd) := hDD
            rw [← hDD] at hkw hkw2 hD
            clear hDD
            obtain ⟨wf, rfl⟩ : ∃ x : World, x = wc := ⟨wc, rfl⟩
            go_upto_if 188 with fail
            go_cut [33] from 188 to 204 (fun cv wx => ∃ L, cv = .slice (some ⟨wf.heap.size, 0, none⟩) L L ∧ L = (bif us then D else D + wd) ∧ Below wf.heap.size wf wx ∧ Row wx wf.heap.size 21 (cvals D L (cntRow (fun i => bitOf P i && bitOf M i) n)))
            case first => as_aux_lemma =>
              cases us with
              | true =>
                have hm28 := make28 D (by omega)
                go_wp2
                go_meet
                case rel => exact ⟨D, rfl, rfl, (Below.refl _ _).alloc (Nat.le_refl _) _, by have := Row.made wf 21 .i32 D; rw [cvals_none D (cntRow (fun i => bitOf P i && bitOf M i) n)] at this; exact this⟩
              | false =>
                have hcp := copy_counts wf D wd n _ _ H5.out.1.2.2.2.1
                obtain ⟨E, hE⟩ : ∃ E : Nat, E = D + wd := ⟨_, rfl⟩
                have HE : Hid (E = D + wd) := hE
                have hDE : D < E := by omega
                have hE2 : E ≤ 15 := by omega
                rw [← hE] at hcp hkw2
                clear hE
                have hm28 := make28 E (by omega)
                go_wp2
                go_meet
                case rel => exact ⟨E, rfl, HE.out, (Below.refl _ _).alloc (Nat.le_refl _) _, by have := Row.new wf 21 (cvals D E (cntRow (fun i => bitOf P i && bitOf M i) n)).toArray; simpa using this⟩
            case rest => as_aux_lemma =>
              obtain ⟨L, rfl, hL, hbf, hrc⟩ := hcut
              have H6 : Hid ((L = (bif us then D else D + wd)) ∧ At4 w wc n W wd P M z3 mo ml wb.heap.size (wb.heap.size + 1) ∧ Buckets wc we.heap.size nb k nb w.heap.size W wb.heap.size wd ∧ Row wc wf.heap.size 21 (cvals D L (cntRow (fun i => bitOf P i && bitOf M i) n))) := ⟨hL, H5.out.1.below hbf, H5.out.2.below hbf, hrc⟩
              have hL15 : L ≤ 15 := by rw [hL]; cases us <;> simp <;> omega
              clear hL hbf hrc H5 hkw hkw2
              obtain ⟨wg, rfl⟩ : ∃ x : World, x = wc := ⟨wc, rfl⟩
              go_upto_region 49 with fail
              go_cut [34] from 205 to 207 (fun t wx => t = .pointer (some ⟨wg.heap.size, 0, none⟩) ∧ Below wg.heap.size wg wx ∧ Row wx wg.heap.size 35 [.slice mo ml ml, .slice (some ⟨wf.heap.size, 0, none⟩) L L])
              case first => as_aux_lemma =>
                go_wp2
                go_meet
                case rel => exact ⟨rfl, (Below.refl _ _).alloc (Nat.le_refl _) _, Row.new wg 35 #[.slice mo ml ml, .slice (some ⟨wf.heap.size, 0, none⟩) L L]⟩
              case rest => as_aux_lemma =>
                obtain ⟨rfl, hbg, hrt⟩ := hcut
                obtain ⟨wh, rfl⟩ : ∃ x : World, x = wc := ⟨wc, rfl⟩
                have H7 : Hid (Below wg.heap.size wg wh ∧ Row wh wg.heap.size 35 [.slice mo ml ml, .slice (some ⟨wf.heap.size, 0, none⟩) L L]) := ⟨hbg, hrt⟩
                clear hbg hrt
                go_upto_region 50 with fail
                go_cut [35] from 208 to 209 (fun v wx => Below wh.heap.size wh wx ∧ Cloned wx v wh.heap.size (fill W .u64 (fun j => (P j : Int))))
                case first => as_aux_lemma =>
                  have hc := clone6 w.heap.size W W ((List.range W).map (fun j => (P j : Int))) wh (by simp) (by omega) (H6.out.2.1.below H7.out.1).2.1.held
                  go_wp2_with (go_at_call 6; refine hc.mono ?_; rintro e w'' ⟨v', rfl, hcl, hbb⟩)
                  go_meet
                  case rel => exact ⟨hbb, hcl⟩
                case rest => as_aux_lemma =>
                  obtain ⟨hbh, hcl⟩ := hcut
                  obtain ⟨wi, rfl⟩ : ∃ x : World, x = wc := ⟨wc, rfl⟩
                  have H8 : Hid (Below wh.heap.size wh wi ∧ Cloned wi u35 wh.heap.size (fill W .u64 (fun j => (P j : Int)))) := ⟨hbh, hcl⟩
                  clear hbh hcl
                  go_upto_region 51 with fail
                  go_cut [36] from 210 to 211 (fun v wx => Below wi.heap.size wi wx ∧ Cloned wx v wi.heap.size (crow wd (bitOf P) n))
                  case first => as_aux_lemma =>
                    have hc := clone7 wb.heap.size wd wd ((List.range wd).map (fun c => (cntRow (bitOf P) n c : Int))) wi (by simp) (by omega) ((H6.out.2.1.below H7.out.1).below H8.out.1).2.2.1.held
                    go_wp2_with (go_at_call 7; refine hc.mono ?_; rintro e w'' ⟨v', rfl, hcl, hbb⟩)
                    go_meet
                    case rel => exact ⟨hbb, hcl⟩
                  case rest => as_aux_lemma =>
                    obtain ⟨hbi, hcl⟩ := hcut
                    obtain ⟨wj, rfl⟩ : ∃ x : World, x = wc := ⟨wc, rfl⟩
                    have H9 : Hid (Below wi.heap.size wi wj ∧ Cloned wj u36 wi.heap.size (crow wd (bitOf P) n)) := ⟨hbi, hcl⟩
                    clear hbi hcl
                    go_upto_region 52 with fail
                    go_cut [37] from 212 to 213 (fun v wx => Below wj.heap.size wj wx ∧ Cloned wx v wj.heap.size (cvals D L (cntRow (fun i => bitOf P i && bitOf M i) n)))
                    case first => as_aux_lemma =>
                      have hr := ((H6.out.2.2.2.below H7.out.1 H6.out.2.2.2.lt).below H8.out.1 (Nat.lt_of_lt_of_le H6.out.2.2.2.lt H7.out.1.size)).below H9.out.1 (Nat.lt_of_lt_of_le H6.out.2.2.2.lt (Nat.le_trans H7.out.1.size H8.out.1.size))
                      have hc := clone8 wf.heap.size L L ((List.range L).map (fun j => if j < D then 0 else (cntRow (fun i => bitOf P i && bitOf M i) n (j - D) : Int))) wj (by simp) (by omega) hr.held
                      clear hr
                      go_wp2_with (go_at_call 8; refine hc.mono ?_; rintro e w'' ⟨v', rfl, hcl, hbb⟩)
                      go_meet
                      case rel => exact ⟨hbb, hcl⟩
                    case rest => as_aux_lemma =>
                      obtain ⟨hbj, hcl⟩ := hcut
                      obtain ⟨wk, rfl⟩ : ∃ x : World, x = wc := ⟨wc, rfl⟩
                      have H10 : Hid (Below wj.heap.size wj wk ∧ Cloned wk u37 wj.heap.size (cvals D L (cntRow (fun i => bitOf P i && bitOf M i) n))) := ⟨hbj, hcl⟩
                      clear hbj hcl
                      go_upto_region 53 with fail
                      go_cut [38] from 214 to 215 (fun v wx => Below wk.heap.size wk wx ∧ CloneM wx v wk.heap.size mo W M)
                      case first => as_aux_lemma =>
                        rcases (((H6.out.2.1.below H7.out.1).below H8.out.1).below H9.out.1).below H10.out.1 |>.1 with ⟨h0, rfl, rfl⟩ | ⟨h0, rfl, g, hg, rfl, hr⟩
                        · have hc := clone6_nil wk
                          go_wp2_with (go_at_call 6; refine hc.mono ?_; rintro e w'' ⟨rfl, rfl⟩)
                          go_meet
                          case rel => exact ⟨Below.refl _ _, Or.inl ⟨rfl, rfl⟩⟩
                        · have hc := clone6 g ml ml ((List.range ml).map (fun j => (M j : Int))) wk (by simp) (by omega) hr.held
                          clear hr
                          go_wp2_with (go_at_call 6; refine hc.mono ?_; rintro e w'' ⟨v', rfl, hcl, hbb⟩)
                          go_meet
                          case rel => exact ⟨hbb, Or.inr ⟨⟨g, rfl⟩, hcl⟩⟩
                      case rest => as_aux_lemma =>
                        obtain ⟨hbk, hcl⟩ := hcut
                        obtain ⟨wl, rfl⟩ : ∃ x : World, x = wc := ⟨wc, rfl⟩
                        have H11 : Hid (Below wk.heap.size wk wl ∧ CloneM wl u38 wk.heap.size mo W M) := ⟨hbk, hcl⟩
                        clear hbk hcl
                        go_upto_region 56 with fail
                        go_cut [41] from 216 to 217 (fun p wx => p = .pointer (some ⟨wl.heap.size + 2, 0, none⟩) ∧ Below (wl.heap.size + 2) ((wl.alloc (.cells #[.int .i64 0] 3)).alloc (.cells #[.pointer none] 39)) wx ∧ wx.heap.size = wl.heap.size + 3)
                        case first => as_aux_lemma =>
                          go_wp2
                          go_meet
                          case rel => exact ⟨rfl, (Below.refl _ _).alloc (by simp) _, by simp⟩
                        case rest => as_aux_lemma =>
                          obtain ⟨rfl, hbl, hsz⟩ := hcut
                          obtain ⟨wm, rfl⟩ : ∃ x : World, x = wc := ⟨wc, rfl⟩
                          have H12 : Hid (Below wl.heap.size wl wm ∧ Row wm wl.heap.size 3 [.int .i64 0] ∧ Row wm (wl.heap.size + 1) 39 [.pointer none] ∧ wm.heap.size = wl.heap.size + 3) := by
                            refine ⟨(((Below.refl _ _).alloc (Nat.le_refl _) _).alloc (by simp) _).trans (hbl.mono (by omega)), ?_, ?_, hsz⟩
                            · exact ((Row.new wl 3 #[.int .i64 0]).alloc _).below hbl (by omega)
                            · have := Row.new (wl.alloc (.cells #[.int .i64 0] 3)) 39 #[.pointer none]
                              rw [show (wl.alloc (.cells #[.int .i64 0] 3)).heap.size = wl.heap.size + 1 by simp] at this
                              exact this.below hbl (by omega)
                          clear hbl
                          have HA : ∃ A : Nat, a4 = (A : Int) := ⟨a4.toNat, by omega⟩
                          obtain ⟨A, rfl⟩ := HA
                          obtain ⟨fc, hfc⟩ : ∃ fc : Nat, fc = cnt (fun i => bitOf P i && (bitOf M i == marked)) n := ⟨_, rfl⟩
                          have hfc2 : fc ≤ 6200 := by rw [hfc]; have := cnt_le (fun i => bitOf P i && (bitOf M i == marked)) n; omega
                          rw [← hfc]
                          clear hfc
                          obtain ⟨J, hJ⟩ : ∃ J : Nat, J = A % (fc + 2) := ⟨_, rfl⟩
                          have hJ2 : J ≤ 6201 := by rw [hJ]; have := Nat.mod_lt A (show 0 < fc + 2 by omega); omega
                          have hJi : (A : Int) % ((fc : Int) + 2) = (J : Int) := by rw [hJ]; simp
                          clear hJ
                          have hm67 := make67 n (by omega)
                          have hno := newOrder_any wm.heap.size n #[.pointer (some ⟨wl.heap.size, 0, none⟩), .pointer (some ⟨wl.heap.size + 1, 0, none⟩), .pointer (some ⟨wg.heap.size, 0, none⟩)] wd (by omega) Hn.out.2 (wm.alloc (.cells (madeCells #[.int .i64 0] n) 3))
                          clear hsz
                          go_upto_region 57 with fail
                          go_cut [42] from 218 to 221 (fun o wx => o = .pointer (some ⟨wm.heap.size + 2, 0, none⟩) ∧ Below wm.heap.size wm wx ∧ Row wx (wm.heap.size + 2) 70 [.slice (some ⟨wm.heap.size, 0, none⟩) n n, .slice none 0 0, .int .i64 (wd : Int), tallyFn wl.heap.size (wl.heap.size + 1) wg.heap.size])
                          case first => as_aux_lemma =>
                            clear hJi
                            go_wp2_with (go_at_call 9; refine hno.mono ?_; rintro e w'' ⟨rfl, o, rfl⟩)
                            go_meet
                            case rel =>
                              refine ⟨rfl, (((Below.refl _ _).alloc (Nat.le_refl _) _).alloc (by simp) _).alloc (by simp; omega) _, ?_⟩
                              have := Row.new ((wm.alloc (.cells (madeCells #[.int .i64 0] n) 3)).alloc o) 70 #[.slice (some ⟨wm.heap.size, 0, none⟩) n n, .slice none 0 0, .int .i64 (wd : Int), tallyFn wl.heap.size (wl.heap.size + 1) wg.heap.size]
                              rw [show ((wm.alloc (.cells (madeCells #[.int .i64 0] n) 3)).alloc o).heap.size = wm.heap.size + 2 by simp] at this
                              exact this
                          case rest => as_aux_lemma =>
                            obtain ⟨rfl, hbm, hro⟩ := hcut
                            obtain ⟨wq, rfl⟩ : ∃ x : World, x = wc := ⟨wc, rfl⟩
                            have o1 := hro.cell 1 _ rfl
                            have o1f := hro.frozen 1
                            have H13 : Hid (Below wm.heap.size wm wq ∧ Row wq (wm.heap.size + 2) 70 [.slice (some ⟨wm.heap.size, 0, none⟩) n n, .slice none 0 0, .int .i64 (wd : Int), tallyFn wl.heap.size (wl.heap.size + 1) wg.heap.size]) := ⟨hbm, hro⟩
                            clear hbm hro hm67 hno
                            go_upto_block 8 with fail
                            clear hJi o1 o1f
                            obtain ⟨wz, hwz⟩ : ∃ x : World, x = wq.setCell ⟨wm.heap.size + 2, 1, none⟩ (.slice (some ⟨we.heap.size, 0, none⟩) nb nb) := ⟨_, rfl⟩
                            rw [← hwz]
                            have HR : Hid (Ready wg wz n W wd nb D L P M mo ml we.heap.size wf.heap.size wl.heap.size (wm.heap.size + 2) wm.heap.size u35 u36 u37 u38) := by
                              have bm : Below wm.heap.size wm wz := by rw [hwz]; exact H13.out.1.setCell (by simp) _
                              have bl := H12.out.1.trans (bm.mono H12.out.1.size)
                              have bk := H11.out.1.trans (bl.mono H11.out.1.size)
                              have bj := H10.out.1.trans (bk.mono H10.out.1.size)
                              have bi := H9.out.1.trans (bj.mono H9.out.1.size)
                              have bh := H8.out.1.trans (bi.mono H8.out.1.size)
                              have bg := H7.out.1.trans (bh.mono H7.out.1.size)
                              have s1 := H7.out.2.lt
                              have s2 := H8.out.1.size
                              have s3 := H9.out.1.size
                              have s4 := H10.out.1.size
                              have s5 := H11.out.1.size
                              have s6 := H12.out.2.2.2
                              exact {
                                bel := bg
                                tal := H7.out.2.below bh s1
                                cP := H8.out.2.copy bi (by omega) (by omega)
                                cB := H9.out.2.copy bj (by omega) (by omega)
                                cC := H10.out.2.copy bk (by omega) (by omega)
                                cM := by
                                  rcases H11.out.2 with h | ⟨h, h'⟩
                                  · exact Or.inl h
                                  · exact Or.inr ⟨h, h'.copy bl (by omega) (by omega)⟩
                                calls := H12.out.2.1.below bm (by omega)
                                seen := H12.out.2.2.1.below bm (by omega)
                                ord := by
                                  have := H13.out.2.setCell 1 (.slice (some ⟨we.heap.size, 0, none⟩) nb nb)
                                  rw [← hwz] at this
                                  exact this
                                lt := by omega
                                lo := by omega }
                            clear hwz H7 H8 H9 H10 H11 H12 H13
                            have hbP : ∀ i, i < n → Calls Ybad.prog 5 #[.slice (some ⟨w.heap.size, 0, none⟩) W W, .int .i64 (i : Int)] wz fun e w' => e = .returned (.bool (bitOf P i)) ∧ wz = w' := by
                              intro i hi
                              have hh := Hn.out
                              refine (bit_some w.heap.size W i _ wz (by omega) (by omega) (by rw [HPM.out.1]; exact wordOf_lt z2 R2.out.1 (i / 64) n) ((H6.out.2.1.below HR.out.bel).2.1.cell (i / 64) _ (fill_get _ _ (by omega)))).mono ?_
                              rintro e w' ⟨rfl, rfl⟩
                              exact ⟨rfl, rfl⟩
                            have hbM : ∀ i, i < n → Calls Ybad.prog 5 #[.slice mo ml ml, .int .i64 (i : Int)] wz fun e w' => e = .returned (.bool (bitOf M i)) ∧ wz = w' := by
                              intro i hi
                              have hm := (H6.out.2.1.below HR.out.bel).1
                              rw [HPM.out.2] at hm ⊢
                              refine (hm.bit R3.out.1 (by omega) Hn.out.1 i hi).mono ?_
                              rintro e w' ⟨rfl, rfl⟩
                              exact ⟨rfl, rfl⟩
                            have HbP : Hid (∀ i, i < n → Calls Ybad.prog 5 #[.slice (some ⟨w.heap.size, 0, none⟩) W W, .int .i64 (i : Int)] wz fun e w' => e = .returned (.bool (bitOf P i)) ∧ wz = w') := hbP
                            have HbM : Hid (∀ i, i < n → Calls Ybad.prog 5 #[.slice mo ml ml, .int .i64 (i : Int)] wz fun e w' => e = .returned (.bool (bitOf M i)) ∧ wz = w') := hbM
                            clear hbP hbM
                            go_cut [44, 45, 46] from 230 to 250 (fun want _ _ wx => ∃ r : Int, want = .int .i64 r ∧ Found (fun i => bitOf P i && (bitOf M i == marked)) n J r ∧ wz = wx)
                            case first => as_aux_lemma =>
                              go_wp2_with fail
                              go_loopg [44, 45, 46] n (fun g want c i wr => ∃ i' : Nat, i = .int .i64 (i' : Int) ∧ i' ≤ n ∧ n - i' ≤ g ∧ want = .int .i64 (-1) ∧ c = .int .i64 ((cnt (fun i => bitOf P i && (bitOf M i == marked)) i' : Nat) : Int) ∧ cnt (fun i => bitOf P i && (bitOf M i == marked)) i' ≤ J ∧ wz = wr)
                              case atStart => exact ⟨0, rfl, Nat.zero_le _, Nat.le_refl _, rfl, rfl, Nat.zero_le _, rfl⟩
                              case round =>
                                obtain ⟨i, rfl, hi, hgh, rfl, rfl, hcJ, rfl⟩ := hrel
                                have HCJ : Hid (cnt (fun i => bitOf P i && (bitOf M i == marked)) i ≤ J) := hcJ
                                by_cases hlt : i < n
                                · have hbp := HbP.out i hlt
                                  have hbm := HbM.out i hlt
                                  have HCn : Hid (cnt (fun i => bitOf P i && (bitOf M i == marked)) (i + 1) = cnt (fun i => bitOf P i && (bitOf M i == marked)) i + (bitOf P i && (bitOf M i == marked)).toNat) := rfl
                                  have HFd : Hid ((bitOf P i && (bitOf M i == marked)) = true → cnt (fun i => bitOf P i && (bitOf M i == marked)) i = J → Found (fun i => bitOf P i && (bitOf M i == marked)) n J (i : Int)) := fun h1 h2 => Or.inl ⟨i, hlt, rfl, h1, h2⟩
                                  generalize hc : cnt (fun i => bitOf P i && (bitOf M i == marked)) i = c at *
                                  clear hc
                                  have hct : ∀ b : Bool, (bitOf P i && (bitOf M i == marked)) = b → cnt (fun i => bitOf P i && (bitOf M i == marked)) (i + 1) = c + b.toNat := by
                                    intro b hb
                                    have := HCn.out; rw [hb] at this; exact this
                                  clear HCn
                                  cases hPi : bitOf P i with
                                  | false =>
                                    rw [hPi] at hbp
                                    have HF : Hid (cnt (fun i => bitOf P i && (bitOf M i == marked)) (i + 1) = c) := hct false (by rw [hPi]; rfl)
                                    clear hct hPi HFd
                                    go_wp2_with (go_at_call 5; first | ((with_reducible refine hbp.mono ?_); rintro e w'' ⟨rfl, rfl⟩) | ((with_reducible refine hbm.mono ?_); rintro e w'' ⟨rfl, rfl⟩))
                                    go_roundg (n - (i + 1))
                                    case measure => omega
                                    case rel => exact ⟨i + 1, by go_num, by omega, Nat.le_refl _, rfl, by rw [HF.out], by rw [HF.out]; exact HCJ.out, rfl⟩
                                  | true =>
                                    rw [hPi] at hbp
                                    cases hMi : bitOf M i with
                                    | false =>
                                      rw [hMi] at hbm
                                      cases marked with
                                      | true =>
                                        have HF : Hid (cnt (fun i => bitOf P i && (bitOf M i == true)) (i + 1) = c) := hct false (by rw [hPi, hMi]; rfl)
                                        clear hct hPi hMi HFd
                                        go_wp2_with (go_at_call 5; first | ((with_reducible refine hbp.mono ?_); rintro e w'' ⟨rfl, rfl⟩) | ((with_reducible refine hbm.mono ?_); rintro e w'' ⟨rfl, rfl⟩))
                                        go_roundg (n - (i + 1))
                                        case measure => omega
                                        case rel => exact ⟨i + 1, by go_num, by omega, Nat.le_refl _, rfl, by rw [HF.out], by rw [HF.out]; exact HCJ.out, rfl⟩
                                      | false =>
                                        by_cases hcj : c = J
                                        · subst hcj
                                          have HF : Hid (Found (fun i => bitOf P i && (bitOf M i == false)) n c (i : Int)) := HFd.out (by rw [hPi, hMi]; rfl) rfl
                                          clear hct hPi hMi
                                          go_wp2_with (go_at_call 5; first | ((with_reducible refine hbp.mono ?_); rintro e w'' ⟨rfl, rfl⟩) | ((with_reducible refine hbm.mono ?_); rintro e w'' ⟨rfl, rfl⟩))
                                          go_meet
                                          case rel => exact ⟨_, rfl, HF.out, rfl⟩
                                        · have HF : Hid (cnt (fun i => bitOf P i && (bitOf M i == false)) (i + 1) = c + 1) := hct true (by rw [hPi, hMi]; rfl)
                                          have HN : Hid (¬ c = J) := hcj
                                          clear hct hPi hMi
                                          go_wp2_with (go_at_call 5; first | ((with_reducible refine hbp.mono ?_); rintro e w'' ⟨rfl, rfl⟩) | ((with_reducible refine hbm.mono ?_); rintro e w'' ⟨rfl, rfl⟩))
                                          go_roundg (n - (i + 1))
                                          case measure => omega
                                          case rel => exact ⟨i + 1, by go_num, by omega, Nat.le_refl _, rfl, by rw [HF.out]; go_num, by rw [HF.out]; have := HCJ.out; have := HN.out; omega, rfl⟩
                                    | true =>
                                      rw [hMi] at hbm
                                      cases marked with
                                      | true =>
                                        by_cases hcj : c = J
                                        · subst hcj
                                          have HF : Hid (Found (fun i => bitOf P i && (bitOf M i == true)) n c (i : Int)) := HFd.out (by rw [hPi, hMi]; rfl) rfl
                                          clear hct hPi hMi
                                          go_wp2_with (go_at_call 5; first | ((with_reducible refine hbp.mono ?_); rintro e w'' ⟨rfl, rfl⟩) | ((with_reducible refine hbm.mono ?_); rintro e w'' ⟨rfl, rfl⟩))
                                          go_meet
                                          case rel => exact ⟨_, rfl, HF.out, rfl⟩
                                        · have HF : Hid (cnt (fun i => bitOf P i && (bitOf M i == true)) (i + 1) = c + 1) := hct true (by rw [hPi, hMi]; rfl)
                                          have HN : Hid (¬ c = J) := hcj
                                          clear hct hPi hMi
                                          go_wp2_with (go_at_call 5; first | ((with_reducible refine hbp.mono ?_); rintro e w'' ⟨rfl, rfl⟩) | ((with_reducible refine hbm.mono ?_); rintro e w'' ⟨rfl, rfl⟩))
                                          go_roundg (n - (i + 1))
                                          case measure => omega
                                          case rel => exact ⟨i + 1, by go_num, by omega, Nat.le_refl _, rfl, by rw [HF.out]; go_num, by rw [HF.out]; have := HCJ.out; have := HN.out; omega, rfl⟩
                                      | false =>
                                        have HF : Hid (cnt (fun i => bitOf P i && (bitOf M i == false)) (i + 1) = c) := hct false (by rw [hPi, hMi]; rfl)
                                        clear hct hPi hMi HFd
                                        go_wp2_with (go_at_call 5; first | ((with_reducible refine hbp.mono ?_); rintro e w'' ⟨rfl, rfl⟩) | ((with_reducible refine hbm.mono ?_); rintro e w'' ⟨rfl, rfl⟩))
                                        go_roundg (n - (i + 1))
                                        case measure => omega
                                        case rel => exact ⟨i + 1, by go_num, by omega, Nat.le_refl _, rfl, by rw [HF.out], by rw [HF.out]; exact HCJ.out, rfl⟩
                                · obtain rfl : i = n := by omega
                                  go_wp2
                                  go_meet
                                  case rel => exact ⟨_, rfl, Or.inr ⟨rfl, HCJ.out⟩, rfl⟩
                            case rest => as_aux_lemma =>
                              obtain ⟨r, rfl, hF, rfl⟩ := hcut
                              have hnth := nth_ready w wg wz n W wd nb k D L J P M z3 mo ml wb.heap.size (wb.heap.size + 1) we.heap.size wf.heap.size wl.heap.size (wm.heap.size + 2) wm.heap.size (some ⟨wl.heap.size + 2, 0, none⟩) marked us u35 u36 u37 u38 H6.out.2.1 H6.out.2.2.1 H6.out.2.2.2 HR.out HD.out H6.out.1
                                (by
                                  intro h
                                  rw [HPM.out.1, HPM.out.2]
                                  exact short_clear z2 z3 n short R2.out.1 (by
                                    have h1 := Hus.out
                                    rw [h] at h1
                                    cases short with
                                    | true => exact Or.inl rfl
                                    | false =>
                                      refine Or.inr ?_
                                      rcases H6.out.2.1.1 with ⟨h2, _, _⟩ | ⟨_, _, g, _, h3, _⟩
                                      · exact h2
                                      · rw [h3] at h1; simp at h1))
                                (by
                                  intro h i
                                  rw [HPM.out.2]
                                  rcases H6.out.2.1.1 with ⟨h2, _, _⟩ | ⟨_, _, g, _, h3, _⟩
                                  · unfold markOf; rw [if_pos h2]
                                  · rw [h3] at h; simp at h)
                                (by intro i; rw [HPM.out.1]; exact wordOf_lt z2 R2.out.1 i n)
                                (by intro i; rw [HPM.out.2]; exact markOf_lt z2 z3 n short R3.out.1 i)
                                (by intro i hi; rw [HPM.out.1]; exact words_past z2 n i hi)
                                HT.out HG.out hn2 Hn.out.1 Hn.out.2 hk2 hkn (by omega)
                              have HF : Hid (Found (fun i => bitOf P i && (bitOf M i == marked)) n J r) := hF
                              clear hF HbP HbM
                              go_upto_region 69 with fail
                              go_cut [47] from 251 to 255 (fun got wx => got = .int .i64 r ∧ Done wg wx n W wd nb D L P M mo we.heap.size wf.heap.size wl.heap.size (wm.heap.size + 2) (some ⟨wl.heap.size + 2, 0, none⟩) u35 u36 u37 u38)
                              case first => as_aux_lemma =>
                                go_wp2_with (go_at_call 11; refine hnth.mono ?_; rintro e w'' ⟨r', rfl, hf', hd⟩)
                                go_meet
                                case rel =>
                                  obtain rfl := HF.out.unique hf'
                                  exact ⟨rfl, hd⟩
                              case rest => as_aux_lemma =>
                                obtain ⟨rfl, hd⟩ := hcut
                                clear hnth HR HF
                                obtain ⟨wy, rfl⟩ : ∃ x : World, x = wc := ⟨wc, rfl⟩
                                have hcalls := hd.calls
                                have hseen := hd.seen
                                have ho1 := hd.o1
                                have hta1 := hd.ta1
                                obtain ⟨mk, hta0, hmk⟩ := hd.ta0
                                obtain ⟨xs, x1, x2, x3⟩ := H6.out.2.2.1.below hd.bel
                                obtain ⟨x4, x5⟩ := x3 hkn
                                have hb0 := x1.cell _ _ x4
                                have hb1 := x1.cell _ _ x5
                                clear xs x1 x2 x3 x4 x5
                                obtain ⟨g1, c1, e1, _, _, hg1⟩ := hd.cP
                                obtain ⟨g2, cc2, e2, _, _, hg2⟩ := hd.cB
                                obtain ⟨g3, cc3, e3, _, _, hg3⟩ := hd.cC
                                rw [fill_length] at e1
                                rw [show (crow wd (bitOf P) n).length = wd from fill_length _ _ _] at e2
                                rw [show (cvals D L (cntRow (fun i => bitOf P i && bitOf M i) n)).length = L from fill_length _ _ _] at e3
                                have hA := H6.out.2.1.below hd.bel
                                have q12 := equal12 w.heap.size W W g1 c1 ((List.range W).map (fun j => (P j : Int))) wy (by simp) (by omega) hA.2.1.held hg1
                                have q13 := fun q => equal13 wb.heap.size wd wd g2 cc2 ((List.range wd).map (fun c => (cntRow (bitOf P) n c : Int))) (wy.drewN q) (by simp) (by omega) hA.2.2.1.held hg2
                                have q14 := fun q => equal14 wf.heap.size L L g3 cc3 ((List.range L).map (fun j => if j < D then 0 else (cntRow (fun i => bitOf P i && bitOf M i) n (j - D) : Int))) (wy.drewN q) (by simp) (by omega) (H6.out.2.2.2.below hd.bel H6.out.2.2.2.lt).held hg3
                                have HBel : Hid (∀ q, Below w.heap.size w (wy.drewN q)) := fun q => belowN hA.2.2.2.2.2.2 q
                                have hnil := nil25
                                have h39 := same39
                                subst e1 e2 e3
                                have hM0 : mo = none → ∀ i, M i = 0 := by
                                  intro h i
                                  rw [HPM.out.2]
                                  rcases H6.out.2.1.1 with ⟨h2, _, _⟩ | ⟨_, _, g, _, h3, _⟩
                                  · unfold markOf; rw [if_pos h2]
                                  · rw [h3] at h; simp at h
                                rcases hd.cM with ⟨hmo, rfl⟩ | ⟨_, g4, cc4, e4, _, _, hg4⟩
                                · have hM00 := hM0 hmo
                                  have HZ : Hid (∀ i, i < W → wy.cell? ⟨mk, i, none⟩ = some (.int .u64 0)) := by
                                    intro i hi
                                    have := hmk i _ (fill_get _ _ hi)
                                    rw [hM00 i] at this
                                    exact this
                                  clear hM0 hM00 hmk hA hd hg1 hg2 hg3 hmo
                                  go_wp2_with (first | (go_at_call 12; refine q12.mono ?_; rintro e w'' ⟨rfl, qa, rfl⟩) | (go_at_call 13; refine (q13 _).mono ?_; rintro e w'' ⟨rfl, qb, rfl⟩) | (go_at_call 14; refine (q14 _).mono ?_; rintro e w'' ⟨rfl, qc, rfl⟩) | fail)
                                  obtain ⟨wq', hwq'⟩ : ∃ x : World, x = wy.drewN (qa + qb + qc) := ⟨_, rfl⟩
                                  rw [← hwq']
                                  have HZ2 : Hid (∀ i, i < W → wq'.cell? ⟨mk, i, none⟩ = some (.int .u64 0)) := by rw [hwq']; exact HZ.out
                                  have ht0 : wq'.cell? ⟨wg.heap.size, 0, none⟩ = some (.slice (some ⟨mk, 0, none⟩) W W) := by rw [hwq']; exact hta0
                                  have HE : Hid (Below w.heap.size w wq') := by rw [hwq']; exact HBel.out _
                                  clear hwq' HZ hta0 hta1 hcalls hseen ho1 hb0 hb1 q12 q13 q14 HBel hnil h39
                                  go_loopg [48] W (fun g i wr => ∃ i' : Nat, i = .int .i64 (i' : Int) ∧ i' ≤ W ∧ W - i' ≤ g ∧ wq' = wr)
                                  case atStart => exact ⟨0, rfl, Nat.zero_le _, Nat.le_refl _, rfl⟩
                                  case round =>
                                    obtain ⟨i, rfl, hi, hgh, rfl⟩ := hrel
                                    by_cases hlt : i < W
                                    · have hz := HZ2.out i hlt
                                      go_wp2
                                      go_roundg (W - (i + 1))
                                      case measure => omega
                                      case rel => exact ⟨i + 1, by go_num, by omega, Nat.le_refl _, rfl⟩
                                    · go_wp2
                                      go_ret
                                      exact ⟨rfl, HE.out⟩
                                · rw [fill_length] at e4
                                  have q12b := fun q => equal12 mk W W g4 cc4 ((List.range W).map (fun j => (M j : Int))) (wy.drewN q) (by simp) (by omega) hmk hg4
                                  subst e4
                                  clear hM0 hmk hA hd hg1 hg2 hg3 hg4
                                  go_wp2_with (first | (go_at_call 12; first | ((with_reducible refine q12.mono ?_); rintro e w'' ⟨rfl, q, rfl⟩) | ((with_reducible refine (q12b _).mono ?_); rintro e w'' ⟨rfl, q, rfl⟩)) | (go_at_call 13; refine (q13 _).mono ?_; rintro e w'' ⟨rfl, q, rfl⟩) | (go_at_call 14; refine (q14 _).mono ?_; rintro e w'' ⟨rfl, q, rfl⟩))
                                  go_ret
                                  exact ⟨rfl, HBel.out _⟩
end Go.Proofs.YbulkehayDoor
