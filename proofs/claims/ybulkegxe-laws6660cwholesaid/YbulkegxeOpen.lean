/- LawS6660CWhole: the arguments opened: keys, the slice of records. -/
import Derived.Test.YbulkegxeEqs
import Derived.ProofKit
import Derived.OpenShut
import Derived.Carry
import Derived.Deep.Slices
namespace Go.Proofs.Ybulkegxe
open Go.RowKit Go.Lib Go.ChangeShapes
set_option linter.unusedVariables false
set_option linter.unusedSimpArgs false
section
variable {H : Type} {enc : TypeId × Value → H} {w : World} {base : Nat} {sp : Nat → Bool} {held : Bool}

theorem mapM_some {α β : Type} {f : α → Option β} : ∀ {l : List α} {ys : List β}, l.mapM f = some ys → ∀ a ∈ l, ∃ y, f a = some y
  | [], _, _, a, ha => by cases ha
  | x :: l, ys, h, a, ha => by
    rw [List.mapM_cons] at h
    simp only [bind, Option.bind_eq_some_iff, pure, Option.some.injEq] at h
    obtain ⟨y, h1, ys', h2, rfl⟩ := h
    rcases List.mem_cons.1 ha with rfl | ha
    · exact ⟨y, h1⟩
    · exact mapM_some h2 a ha
theorem Yba.cells28' : Yba.prog.cellsOf 28 = 32 := by kernel_rfl
theorem Yba.cells59' : Yba.prog.cellsOf 59 = 39 := by kernel_rfl
theorem Yba.cells2' : Yba.prog.cellsOf 2 = 1 := by kernel_rfl
theorem Yba.cells3' : Yba.prog.cellsOf 3 = 1 := by kernel_rfl
theorem Yba.cells4' : Yba.prog.cellsOf 4 = 1 := by kernel_rfl

theorem take_one {cs : List Value} {i : Nat} {v : Value} (h : (cs.drop i).take 1 = [v]) : cs[i]? = some v := by
  have : ((cs.drop i).take 1)[0]? = some v := by rw [h]; rfl
  rw [List.getElem?_take, if_pos (by omega), List.getElem?_drop, Nat.add_zero] at this
  exact this
theorem u8_wf {n : Int} (h : (Lit.int .u8 n).wf = true) : 0 ≤ n ∧ n < 256 := by
  simp [Lit.wf, IntKind.min, IntKind.max, IntKind.signed, IntKind.bits] at h
  omega
theorem i64_wf {n : Int} (h : (Lit.int .i64 n).wf = true) : -9223372036854775808 ≤ n ∧ n ≤ 9223372036854775807 := by
  simp [Lit.wf, IntKind.min, IntKind.max, IntKind.signed, IntKind.bits] at h
  omega

def natsOf (cs : List Value) : List Nat := cs.map fun v => match v with | .int _ n => n.toNat | _ => 0
theorem key_of_trod {fuel : Nat} {cs : List Value} {x : DataW H × List MemPlace} (h : DataW.trod enc Yba.prog w base sp held fuel 28 cs = some x) : IsKey (natsOf cs) ∧ cs = (kcells (natsOf cs)).toList := by
  cases fuel with
  | zero => simp [DataW.trod] at h
  | succ fuel =>
    simp only [DataW.trod, Yba.underlying28, Yba.cells28', Yba.cells5'] at h
    split at h
    · rename_i hl
      simp only [Option.map_eq_some_iff] at h
      obtain ⟨xs, hx, _⟩ := h
      have hc : ∀ i, i < 32 → ∃ n : Int, cs[i]? = some (.int .u8 n) ∧ 0 ≤ n ∧ n < 256 := fun i hi => by
        obtain ⟨y, hy⟩ := mapM_some hx i (by simpa using hi)
        rw [Nat.mul_one] at hy
        obtain ⟨n, h1, _, h2⟩ := DataW.trod_int Yba.underlying5 hy
        exact ⟨n, take_one h1, u8_wf h2⟩
      refine ⟨⟨by unfold natsOf; rw [List.length_map]; exact hl, ?_⟩, ?_⟩
      · intro z hz
        unfold natsOf at hz
        obtain ⟨v, hv, rfl⟩ := List.mem_map.1 hz
        obtain ⟨i, hi, rfl⟩ := List.getElem_of_mem hv
        obtain ⟨n, h1, h2, h3⟩ := hc i (by omega)
        rw [List.getElem?_eq_getElem hi] at h1
        simp only [Option.some.injEq] at h1
        rw [h1]
        show n.toNat < 256
        omega
      · apply List.ext_getElem?
        intro i
        by_cases hi : i < 32
        · obtain ⟨n, h1, h2, h3⟩ := hc i hi
          have hk := kcells_get (natsOf cs) i (by unfold natsOf; rw [List.length_map]; omega)
          rw [h1, Array.getElem?_toList, hk]
          congr 2
          unfold natsOf
          rw [List.getD_eq_getElem?_getD, List.getElem?_map, h1]
          show n = ((n.toNat : Nat) : Int)
          omega
        · rw [List.getElem?_eq_none (by omega), List.getElem?_eq_none (by rw [Array.length_toList, kcells_size]; unfold natsOf; rw [List.length_map]; omega)]
    · cases h

theorem inp_of_trod {fuel : Nat} {cs : List Value} {x : DataW H × List MemPlace} (h : DataW.trod enc Yba.prog w base sp held fuel 59 cs = some x) : ∃ r : Inp, InpOk r ∧ cs = (inpC r).toList := by
  cases fuel with
  | zero => simp [DataW.trod] at h
  | succ fuel =>
    simp only [DataW.trod, Yba.underlying59, Yba.cells59'] at h
    split at h
    · rename_i hl
      simp only [Option.map_eq_some_iff] at h
      obtain ⟨xs, hx, _⟩ := h
      obtain ⟨y0, h0⟩ := mapM_some hx _ (List.mem_of_getElem? (i := 0) rfl)
      obtain ⟨y1, h1⟩ := mapM_some hx _ (List.mem_of_getElem? (i := 1) rfl)
      obtain ⟨y2, h2⟩ := mapM_some hx _ (List.mem_of_getElem? (i := 2) rfl)
      obtain ⟨y3, h3⟩ := mapM_some hx _ (List.mem_of_getElem? (i := 3) rfl)
      obtain ⟨y4, h4⟩ := mapM_some hx _ (List.mem_of_getElem? (i := 4) rfl)
      obtain ⟨y5, h5⟩ := mapM_some hx _ (List.mem_of_getElem? (i := 5) rfl)
      obtain ⟨y6, h6⟩ := mapM_some hx _ (List.mem_of_getElem? (i := 6) rfl)
      obtain ⟨y7, h7⟩ := mapM_some hx _ (List.mem_of_getElem? (i := 7) rfl)
      have g0 : DataW.trod enc Yba.prog w base sp held fuel 28 ((cs.drop 0).take (Yba.prog.cellsOf 28)) = some y0 := h0
      have g1 : DataW.trod enc Yba.prog w base sp held fuel 5 ((cs.drop 32).take (Yba.prog.cellsOf 5)) = some y1 := h1
      have g2 : DataW.trod enc Yba.prog w base sp held fuel 2 ((cs.drop 33).take (Yba.prog.cellsOf 2)) = some y2 := h2
      have g3 : DataW.trod enc Yba.prog w base sp held fuel 2 ((cs.drop 34).take (Yba.prog.cellsOf 2)) = some y3 := h3
      have g4 : DataW.trod enc Yba.prog w base sp held fuel 4 ((cs.drop 35).take (Yba.prog.cellsOf 4)) = some y4 := h4
      have g5 : DataW.trod enc Yba.prog w base sp held fuel 3 ((cs.drop 36).take (Yba.prog.cellsOf 3)) = some y5 := h5
      have g6 : DataW.trod enc Yba.prog w base sp held fuel 3 ((cs.drop 37).take (Yba.prog.cellsOf 3)) = some y6 := h6
      have g7 : DataW.trod enc Yba.prog w base sp held fuel 3 ((cs.drop 38).take (Yba.prog.cellsOf 3)) = some y7 := h7
      rw [Yba.cells28', List.drop_zero] at g0
      rw [Yba.cells5'] at g1
      rw [Yba.cells2'] at g2 g3
      rw [Yba.cells4'] at g4
      rw [Yba.cells3'] at g5 g6 g7
      obtain ⟨hk, he⟩ := key_of_trod g0
      obtain ⟨n1, e1, _, f1⟩ := DataW.trod_int Yba.underlying5 g1
      obtain ⟨n2, e2, _, f2⟩ := DataW.trod_int Yba.underlying2 g2
      obtain ⟨n3, e3, _, f3⟩ := DataW.trod_int Yba.underlying2 g3
      obtain ⟨b4, e4, _⟩ := DataW.trod_bool Yba.underlying4 g4
      obtain ⟨n5, e5, _, f5⟩ := DataW.trod_int Yba.underlying3 g5
      obtain ⟨n6, e6, _, f6⟩ := DataW.trod_int Yba.underlying3 g6
      obtain ⟨n7, e7, _, f7⟩ := DataW.trod_int Yba.underlying3 g7
      have w1 := u8_wf f1
      have w2 := i64_wf f2
      have w3 := i64_wf f3
      refine ⟨⟨natsOf (cs.take 32), n1.toNat, n2, n3, b4, n5, n6, n7⟩, ⟨hk, by show n1.toNat < 256; omega, w2, w3⟩, ?_⟩
      have hsplit : cs = cs.take 32 ++ cs.drop 32 := (List.take_append_drop 32 cs).symm
      have hd : cs.drop 32 = [.int .u8 n1, .int .i64 n2, .int .i64 n3, .bool b4, .int .i64 n5, .int .i64 n6, .int .i64 n7] := by
        have hlen : (cs.drop 32).length = 7 := by rw [List.length_drop, hl]
        apply List.ext_getElem?
        intro i
        rw [List.getElem?_drop]
        match i with
        | 0 => exact take_one e1
        | 1 => exact take_one e2
        | 2 => exact take_one e3
        | 3 => exact take_one e4
        | 4 => exact take_one e5
        | 5 => exact take_one e6
        | 6 => exact take_one e7
        | i + 7 => rw [List.getElem?_eq_none (by omega)]; rfl
      rw [hsplit, he, hd]
      unfold inpC
      have hn : ((n1.toNat : Nat) : Int) = n1 := by omega
      have hnn : natsOf (kcells (natsOf (cs.take 32))).toList = natsOf (cs.take 32) := by rw [← he]
      simp only [Array.toList_append, hn]
      congr 1
      have ht : ((kcells (natsOf (cs.take 32))).toList ++ [Value.int .u8 n1, .int .i64 n2, .int .i64 n3, .bool b4, .int .i64 n5, .int .i64 n6, .int .i64 n7]).take 32 = (kcells (natsOf (cs.take 32))).toList := by
        rw [List.take_append_of_le_length (by rw [Array.length_toList, kcells_size, hk.len]; omega), List.take_of_length_le (by rw [Array.length_toList, kcells_size, hk.len]; omega)]
      rw [ht, hnn]
    · cases h
end
set_option maxRecDepth 100000 in
set_option maxHeartbeats 800000 in
theorem walk_big (sf k : List Nat) (ra : Option Addr) (rl rc : Nat) (ep : Int) (own : Bool) (w : World) (hrl : 65536 < rl) :
    Calls Yba.prog 4 #[keyV sf, keyV k, .slice ra rl rc, .int .i64 ep, .bool own] w fun e w' => e = .returned (.bool true) ∧ Below w.heap.size w w' := by
  have HB : Hid (Below w.heap.size w ((w.alloc (.cells (kcells sf) 28)).alloc (.cells (kcells k) 28))) := ((Below.refl _ _).alloc (Nat.le_refl _) _).alloc (by simp) _
  have h1 : (65536 : Int) < (rl : Int) := by omega
  unfold keyV
  go_enter Yba.func4, Yba.ntmps4
  go_wp2
  go_ret
  exact ⟨rfl, HB.out⟩
end Go.Proofs.Ybulkegxe
