import Derived.Test.YbulkehayDoorOrder
namespace Go.Proofs.YbulkehayDoor
open Go.RowKit

/-- the words in which the pieces that will do stand -/
def fitWord (P M : Nat → Nat) (marked : Bool) (i : Nat) : Nat := bif marked then P i &&& M i else P i &&& (18446744073709551615 - M i)

/-- what nth reads, at the world in which it reads -/
structure Reads (w : World) (o ta bk pc bc mk n W wd k : Nat) (P M fb fm : Nat → Nat) (ma : Option Addr) (ml : Nat) : Prop where
  o2 : w.cell? ⟨o, 2, none⟩ = some (.int .i64 (wd : Int))
  b0 : w.cell? ⟨bk, 0, none⟩ = some (.slice (some ⟨pc, 0, none⟩) W W)
  b1 : w.cell? ⟨bk, 1, none⟩ = some (.slice (some ⟨bc, 0, none⟩) wd wd)
  t0 : w.cell? ⟨ta, 0, none⟩ = some (.slice (some ⟨mk, 0, none⟩) W W)
  pcs : ∀ i, i < W → w.cell? ⟨pc, i, none⟩ = some (.int .u64 (P i : Int))
  mks : ∀ i, i < W → w.cell? ⟨mk, i, none⟩ = some (.int .u64 (M i : Int))
  bcs : ∀ c, 1 + c < wd → w.cell? ⟨bc, 1 + c, none⟩ = some (.int .i32 (fb c : Int))
  mns : (ma = none ∧ ∀ c, fm c = 0) ∨ ∃ cg, ma = some ⟨cg, k * wd, none⟩ ∧ ml = wd ∧ ∀ c, 1 + c < wd → w.cell? ⟨cg, k * wd + (1 + c), none⟩ = some (.int .i32 (fm c : Int))
  tab : Tab w
  hP : ∀ i, P i < 18446744073709551616
  hM : ∀ i, M i < 18446744073709551616
  hfb : ∀ c, fb c ≤ 6200
  hfm : ∀ c, fm c ≤ fb c
  hn : n ≤ 6200
  hW : W = (n + 63) / 64
  hwd : wd = 1 + (n + 2047) / 2048

set_option maxRecDepth 100000 in
set_option maxHeartbeats 400000 in
theorem nth_core (o ta bcl nb k pc bc mk n W wd J : Nat) (P M fb fm : Nat → Nat) (ma : Option Addr) (ml : Nat) (marked : Bool) (p : Option Addr) (w w2 : World)
    (hk : k < nb) (ho1 : w.cell? ⟨o, 1, none⟩ = some (.slice (some ⟨bcl, 0, none⟩) nb nb))
    (hl0 : w.cell? ⟨bcl, k * 2, none⟩ = some (.slice (some ⟨pc, 0, none⟩) W W)) (hl1 : w.cell? ⟨bcl, k * 2 + 1, none⟩ = some (.slice (some ⟨bc, 0, none⟩) wd wd))
    (hT : Calls Ybad.prog 15 #[.pointer (some ⟨o, 0, none⟩), .pointer p] (w.alloc (.cells #[.slice (some ⟨pc, 0, none⟩) W W, .slice (some ⟨bc, 0, none⟩) wd wd] 33)) fun e w' => e = .returned (.pointer (some ⟨ta, 0, none⟩)) ∧ w' = w2)
    (hC : Calls Ybad.prog 16 #[.pointer (some ⟨o, 0, none⟩), .pointer (some ⟨ta, 0, none⟩), .int .i64 (k : Int)] w2 fun e w' => e = .returned (.slice ma ml ml) ∧ ∃ q, w' = w2.drewN q)
    (R : Reads w2 o ta w.heap.size pc bc mk n W wd k P M fb fm ma ml) (hJ : J ≤ 6210)
    (hpast : ∀ i, n ≤ i → bitOf (fitWord P M marked) i = false)
    (hfit : ∀ c, c < wd - 1 → cnt (bitOf (fitWord P M marked)) (2048 * c) + (bif marked then fm c else fb c - fm c) = cnt (bitOf (fitWord P M marked)) (2048 * (c + 1))) :
    Calls Ybad.prog 11 #[.pointer (some ⟨o, 0, none⟩), .pointer p, .int .i64 (k : Int), .int .i64 (J : Int), .bool marked] w fun e w' => ∃ r : Int, e = .returned (.int .i64 r) ∧ Found (bitOf (fitWord P M marked)) n J r ∧ ∃ q, w' = w2.drewN q := by
  have HR : Hid (Reads w2 o ta w.heap.size pc bc mk n W wd k P M fb fm ma ml) := R
  have HP : Hid (∀ i, n ≤ i → bitOf (fitWord P M marked) i = false) := hpast
  have HF : Hid (∀ c, c < wd - 1 → cnt (bitOf (fitWord P M marked)) (2048 * c) + (bif marked then fm c else fb c - fm c) = cnt (bitOf (fitWord P M marked)) (2048 * (c + 1))) := hfit
  have o2 := R.o2
  have hwd : 1 ≤ wd ∧ wd ≤ 5 := by have := R.hwd; have := R.hn; omega
  have hW100 : W ≤ 97 := by have := R.hW; have := R.hn; omega
  clear R hpast hfit
  have hwdi : (wd : Int) - 1 = ((wd - 1 : Nat) : Int) := by omega
  go_enter Ybad.func11, Ybad.ntmps11
  go_wp2_with (first | (go_at_call 15; refine hT.mono ?_; rintro e w' ⟨rfl, rfl⟩) | (go_at_call 16; refine hC.mono ?_; rintro e w' ⟨rfl, q, rfl⟩))
  clear hT hC ho1 hl0 hl1
  go_loop [3, 38] (fun j c => ∃ (c' : Nat), c = .int .i64 (c' : Int) ∧ c' ≤ wd - 1 ∧ cnt (bitOf (fitWord P M marked)) (2048 * c') ≤ J ∧ j = .int .i64 ((J - cnt (bitOf (fitWord P M marked)) (2048 * c') : Nat) : Int))
    (fun _ c => wd - (intOf c).toNat)
  case atStart => exact ⟨0, rfl, Nat.zero_le _, Nat.zero_le _, rfl⟩
  case round =>
    obtain ⟨c, rfl, hc, hcJ, rfl⟩ := hrel
    by_cases hlt : c < wd - 1
    · have hf := HF.out c hlt
      have hfb := HR.out.hfb c
      have hfm := HR.out.hfm c
      have b1 := HR.out.b1
      have bcs := HR.out.bcs c (by omega)
      have HJ : Hid (cnt (bitOf (fitWord P M marked)) (2048 * c) ≤ J) := hcJ
      generalize hj : J - cnt (bitOf (fitWord P M marked)) (2048 * c) = j at *
      have Hj : Hid (J - cnt (bitOf (fitWord P M marked)) (2048 * c) = j) := hj
      have hjl : j ≤ 6210 := by omega
      have Hf : Hid (cnt (bitOf (fitWord P M marked)) (2048 * c) + (bif marked then fm c else fb c - fm c) = cnt (bitOf (fitWord P M marked)) (2048 * (c + 1))) := hf
      clear hf hcJ hj
      have hunil := unil29
      go_upto_if 42 with fail
      go_cut [15] from 39 to 119 (fun f wx => f = .int .i64 (fm c : Int) ∧ w'.drewN q = wx)
      case first => as_aux_lemma =>
        rcases HR.out.mns with ⟨rfl, h0⟩ | ⟨cg, rfl, hml, hcells⟩
        · have h0c := h0 c
          clear h0
          go_wp2
          go_meet
          case rel => exact ⟨by rw [h0c]; rfl, rfl⟩
        · have hcell := hcells c (by omega)
          obtain rfl : wd = ml := hml.symm
          clear hcells
          generalize k * wd = D at *
          go_wp2
          go_meet
          case rel => exact ⟨rfl, rfl⟩
      case rest =>
        obtain ⟨rfl, rfl⟩ := hcut
        clear hunil
        have hfi : (fb c : Int) - (fm c : Int) = ((fb c - fm c : Nat) : Int) := by omega
        go_upto_if 50 with fail
        go_cut [15] from 39 to 119 (fun f wx => f = .int .i64 ((bif marked then fm c else fb c - fm c : Nat) : Int) ∧ w'.drewN q = wx)
        case first => as_aux_lemma =>
          cases marked with
          | true =>
            go_wp2
            go_meet
            case rel => exact ⟨rfl, rfl⟩
          | false =>
            go_wp2
            go_meet
            case rel => exact ⟨rfl, rfl⟩
        case rest => as_aux_lemma =>
          obtain ⟨rfl, rfl⟩ := hcut
          have hfl : (bif marked then fm c else fb c - fm c) ≤ 6200 := by cases marked <;> simp <;> omega
          clear hfi bcs hfb hfm b1
          generalize (bif marked then fm c else fb c - fm c) = f at *
          by_cases hjf : f ≤ j
          · have hjs : (j : Int) - (f : Int) = ((j - f : Nat) : Int) := by omega
            go_wp2
            go_round
            case rel =>
              have h1 := HJ.out
              have h2 := Hj.out
              have h3 := Hf.out
              exact ⟨c + 1, by go_num, by omega, by omega, by congr 2; omega⟩
            case measure => simp [intOf]; omega
          · have h32 : (c : Int) * 2048 / 64 = ((32 * c : Nat) : Int) := by omega
            have h33 : ((c : Int) + 1) * 2048 / 64 = ((32 * (c + 1) : Nat) : Int) := by omega
            have b0 := HR.out.b0
            have t0 := HR.out.t0
            have Hc : Hid (¬ f ≤ j ∧ c < wd - 1) := ⟨hjf, hlt⟩
            have hmin : ∃ E : Nat, E ≤ W ∧ E ≤ 32 * (c + 1) ∧ (E = W ∨ E = 32 * (c + 1)) ∧ (if (W : Int) < 32 * ((c : Int) + 1) then (W : Int) else 32 * ((c : Int) + 1)) = (E : Int) := by
              rcases Nat.le_total W (32 * (c + 1)) with h | h
              · exact ⟨W, Nat.le_refl _, h, Or.inl rfl, by split <;> omega⟩
              · exact ⟨32 * (c + 1), h, Nat.le_refl _, Or.inr rfl, by split <;> omega⟩
            obtain ⟨E, hE1, hE2, hE3, hEm⟩ := hmin
            have HE3 : Hid (E = W ∨ E = 32 * (c + 1)) := hE3
            have hc4 : c ≤ 4 := by omega
            clear hE3
            go_wp2
            clear h32
            go_loop [3, 16] (fun j v => ∃ (v' : Nat), v = .int .i64 (v' : Int) ∧ 32 * c ≤ v' ∧ (v' ≤ E ∨ v' = 32 * c) ∧ cnt (bitOf (fitWord P M marked)) (64 * v') ≤ J ∧ j = .int .i64 ((J - cnt (bitOf (fitWord P M marked)) (64 * v') : Nat) : Int))
              (fun _ v => W - (intOf v).toNat)
            case atStart =>
              have h1 := HJ.out
              have h2 := Hj.out
              refine ⟨32 * c, by go_num, Nat.le_refl _, Or.inr rfl, ?_, ?_⟩
              · rw [show 64 * (32 * c) = 2048 * c by omega]; exact h1
              · rw [show 64 * (32 * c) = 2048 * c by omega, h2]
            case round =>
              obtain ⟨v, rfl, hv1, hv2, hvJ, rfl⟩ := hrel
              by_cases hvE : v < E
              · have pcs := HR.out.pcs v (by omega)
                have mks := HR.out.mks v (by omega)
                have hPv := HR.out.hP v
                have hMv := HR.out.hM v
                have hQ : fitWord P M marked v < 18446744073709551616 := by
                  unfold fitWord
                  cases marked
                  · exact Nat.lt_of_le_of_lt Nat.and_le_left hPv
                  · exact Nat.lt_of_le_of_lt Nat.and_le_left hPv
                have hand := bits_and_u64_nat (P v) (M v) hPv hMv
                have hann := bits_andNot_u64_nat (P v) (M v) hPv hMv
                have HvJ : Hid (cnt (bitOf (fitWord P M marked)) (64 * v) ≤ J) := hvJ
                generalize hjv : J - cnt (bitOf (fitWord P M marked)) (64 * v) = jv at *
                have Hjv : Hid (J - cnt (bitOf (fitWord P M marked)) (64 * v) = jv) := hjv
                have hjvl : jv ≤ 6210 := by omega
                clear hvJ hjv
                go_upto_if 86 with fail
                go_cut [17] from 69 to 118 (fun x wx => x = .int .u64 ((fitWord P M marked v : Nat) : Int) ∧ w'.drewN q = wx)
                case first => as_aux_lemma =>
                  cases marked with
                  | true =>
                    go_wp2
                    go_meet
                    case rel => exact ⟨rfl, rfl⟩
                  | false =>
                    go_wp2
                    go_meet
                    case rel => exact ⟨rfl, rfl⟩
                case rest => as_aux_lemma =>
                  obtain ⟨rfl, rfl⟩ := hcut
                  clear hand hann pcs mks
                  have hO := ones_any _ hQ (w'.drewN q)
                  have hpl := pop_le 64 (fitWord P M marked v)
                  by_cases hjo : pop 64 (fitWord P M marked v) ≤ jv
                  · have HW : Hid (cnt (bitOf (fitWord P M marked)) (64 * (v + 1)) = cnt (bitOf (fitWord P M marked)) (64 * v) + pop 64 (fitWord P M marked v)) := cnt_word _ _
                    generalize fitWord P M marked v = x at *
                    generalize pop 64 x = y at *
                    have hjs : (jv : Int) - (y : Int) = ((jv - y : Nat) : Int) := by omega
                    go_wp2_with (go_at_call 17; refine hO.mono ?_; rintro e w'' ⟨rfl, rfl⟩)
                    go_round
                    case rel =>
                      have h1 := HvJ.out
                      have h2 := Hjv.out
                      have h3 := HW.out
                      exact ⟨v + 1, by go_num, by omega, Or.inl (by omega), by omega, by congr 2; omega⟩
                    case measure => simp [intOf]; omega
                  · have hS := setBit_any _ jv hQ (by omega) (w'.drewN q) (by intro j v hj; exact HR.out.tab j v hj)
                    have HFd := found_in (fitWord P M marked) n v J HvJ.out (by rw [Hjv.out]; omega) HP.out
                    rw [Hjv.out] at HFd
                    have HFd' : Hid (Found (bitOf (fitWord P M marked)) n J (64 * (v : Int) + (sel 64 (fitWord P M marked v) jv : Nat))) := HFd
                    have hsl := sel_lt 64 (fitWord P M marked v) jv (by omega)
                    clear HFd
                    generalize fitWord P M marked v = x at *
                    generalize pop 64 x = y at *
                    generalize sel 64 x jv = sx at *
                    go_wp2_with (first | (go_at_call 17; refine hO.mono ?_; rintro e w'' ⟨rfl, rfl⟩) | (go_at_call 18; refine hS.mono ?_; rintro e w'' ⟨rfl, rfl⟩))
                    go_ret
                    exact ⟨_, rfl, HFd'.out, q, rfl⟩
              · exfalso
                have h1 := HJ.out
                have h2 := Hj.out
                have h3 := Hf.out
                have h4 := Hc.out
                have h5 := HE3.out
                have h6 := HR.out.hW
                have h7 := HR.out.hwd
                have hEv : cnt (bitOf (fitWord P M marked)) (2048 * (c + 1)) ≤ J := by
                  rcases h5 with h5 | h5
                  · rw [cnt_past HP.out (show n ≤ 2048 * (c + 1) by omega), ← cnt_past HP.out (show n ≤ 64 * v by omega)]; exact hvJ
                  · have hv' : v = 32 * (c + 1) := by omega
                    rw [show 2048 * (c + 1) = 64 * v by omega]; exact hvJ
                omega
    · have HC : Hid (cnt (bitOf (fitWord P M marked)) (2048 * c) ≤ J ∧ ¬ c < wd - 1) := ⟨hcJ, hlt⟩
      generalize J - cnt (bitOf (fitWord P M marked)) (2048 * c) = j at *
      clear hcJ
      go_wp2
      go_ret
      refine ⟨-1, rfl, Or.inr ⟨rfl, ?_⟩, q, rfl⟩
      have h1 := HR.out.hwd
      have h2 := HC.out
      rw [← cnt_past HP.out (show n ≤ 2048 * c by omega)]; exact h2.1
end Go.Proofs.YbulkehayDoor
