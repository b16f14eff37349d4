import Derived.Test.YbulkehayDoorWalk
import Derived.ProofKit
import Derived.LaidMore
import Derived.ChangeOld
import Derived.Below
import Derived.Stop.Joined
namespace Go.Proofs.YbulkehayDoor
open Go.ChangeShapes Go.WideShapes Go.ChangeAt Go.RowKit
set_option linter.unusedVariables false

theorem own : ownKnob Ybad.prog.godebug = none := by kernel_rfl
theorem laidOut : laidOutB Ybad.prog = true := by kernel_rfl
theorem gTab : Ybad.prog.globalNamed ((Rows.lawS6667CWholeRow.laid.map (fun x => x.1)).getD 0 "") = some 0 := by kernel_rfl
theorem tTab : (Ybad.prog.globals[0]?).map (·.type) = some 83 := by kernel_rfl
theorem cells5 : Ybad.prog.cellsOf 5 = 1 := by kernel_rfl

/-- the door's own heap meets the condition -/
theorem door_met (os : Os) (args : Array Value) : laidMetH Ybad.prog Rows.lawS6667CWholeRow.laid ((World.doorLaid Ybad.prog 400 os).forCall (fun _ _ => 0) ⟨#[], args, []⟩).memory :=
  laidMetH_of_parts3 (fuel := 8) (laidMet_of_run' 8 (by kernel_rfl) (by kernel_rfl)) (by kernel_rfl) (by kernel_rfl)

theorem tab_datum : Rows.laid_math_bits_deBruijn64tab (H := Unit) = .agg (tabz.map fun (v : Nat) => DataW.lit (.int .u8 (v : Int))) := rfl

/-- what the condition gives the walk -/
theorem tab_of_laid {W : World} (h : laidMetH Ybad.prog Rows.lawS6667CWholeRow.laid W) : Tab W ∧ 0 < W.heap.size := by
  rw [MakeChecks.laidMetH_plain _ _ _ (by kernel_rfl)] at h
  obtain ⟨ps, ⟨g0, t0, cs0, f0, p0, q0, hg0, ht0, hv0, hd0, _, _⟩, _, _⟩ := h
  obtain rfl := Option.some.inj (gTab.symm.trans hg0)
  obtain rfl := Option.some.inj (tTab.symm.trans ht0)
  obtain ⟨xs, m1, _, hx1, hlen, hn64, hel⟩ := DataW.trod_array Ybad.underlying83 hd0
  simp only [Prod.mk.injEq] at hx1
  have hx := hx1.1
  rw [tab_datum] at hx
  simp only [DataW.agg.injEq] at hx
  have hT : Tab W := by
    intro j v hj
    have hj64 : j < 64 := by
      have := (List.getElem?_eq_some_iff.1 hj).1
      have e : tabz.length = 64 := by decide
      omega
    have h0 := hel j hj64
    rw [cells5, Nat.mul_one] at h0
    have hxj : (xs.map (·.1))[j]? = some (DataW.lit (.int .u8 (v : Int))) := by
      rw [← hx, List.getElem?_map, hj]; rfl
    rw [List.getElem?_map] at hxj
    cases hq : xs[j]? with
    | none => rw [hq] at hxj; cases hxj
    | some x =>
      rw [hq] at hxj h0
      obtain ⟨kk, e1, e2, _⟩ := DataW.trod_int Ybad.underlying5 h0
      have hk : kk = (v : Int) := by rw [e2] at hxj; simpa using hxj
      have hc := World.var?_cell hg0 hv0 j
      rw [hc]
      have e3 : cs0.toList[j]? = some (.int .u8 kk) := by
        have : ((cs0.toList.drop j).take 1)[0]? = some (.int .u8 kk) := by rw [e1]; rfl
        rw [List.getElem?_take_of_lt (by decide), List.getElem?_drop, Nat.add_zero] at this
        exact this
      rw [hk] at e3
      simpa using e3
  refine ⟨hT, ?_⟩
  have := hT 0 0 rfl
  cases hz : W.heap[0]? with
  | none => simp [World.cell?, hz] at this
  | some o => exact (Array.getElem?_eq_some_iff.1 hz).1

theorem wf_bounds (k : IntKind) (lo hi : Int) (h1 : k.min = lo) (h2 : k.max = hi) {a : Int} (h : (Lit.int k a).wf = true) : lo ≤ a ∧ a ≤ hi := by
  have : k.min ≤ a ∧ a ≤ k.max := by simpa [Lit.wf] using h
  rw [h1, h2] at this
  exact this

/-- WHAT THE WALK IS TOLD OF A SLICE OF INTEGERS THAT CAME IN -/
theorem raw_of {W : World} {a : Option Addr} {l c : Nat} (h : (a = none ∧ l = 0 ∧ c = 0) ∨ ∃ (x : Addr) (zs : List Int), a = some x ∧ l ≤ c ∧ c ≤ maxLen ∧ zs.length = c ∧ (∀ i, i < zs.length → W.cell? (x.add i) = some (.int .u64 (zs.getD i 0))) ∧ ∀ n ∈ zs, (Lit.int .u64 n).wf = true) :
    ∃ z, Raw W a l z := by
  rcases h with ⟨rfl, rfl, rfl⟩ | ⟨x, zs, rfl, hl, hm, hz, hcell, hwz⟩
  · exact ⟨[], fun i hi => absurd hi (by simp), rfl, by decide, Or.inl rfl⟩
  · have hmax : maxLen ≤ 9223372036854775807 := by decide
    have hget : ∀ j, j < l → (zs.take l).getD j 0 = zs.getD j 0 := by
      intro j hj
      simp only [List.getD_eq_getElem?_getD, List.getElem?_take_of_lt hj]
    have hlen : (zs.take l).length = l := by rw [List.length_take]; omega
    refine ⟨zs.take l, ?_, hlen, by omega, ?_⟩
    · intro i hi
      rw [hlen] at hi
      rw [hget i hi]
      have hi2 : i < zs.length := by omega
      have hmem : zs.getD i 0 ∈ zs := by
        rw [List.getD_eq_getElem?_getD, List.getElem?_eq_getElem hi2]
        exact List.getElem_mem hi2
      have := hwz _ hmem
      have hb := wf_bounds .u64 0 18446744073709551615 rfl rfl this
      exact ⟨hb.1, by omega⟩
    · by_cases h0 : l = 0
      · exact Or.inl h0
      · obtain ⟨b, off, rfl, hc⟩ := ints_at hcell (by omega)
        refine Or.inr ⟨b, off, rfl, ?_, fun j hj => ?_⟩
        · have := hc 0 (by omega)
          cases hq : W.heap[b]? with
          | none => simp [World.cell?, hq] at this
          | some o => exact (Array.getElem?_eq_some_iff.1 hq).1
        · rw [hlen] at hj
          rw [hget j hj]
          exact hc j (by omega)

theorem walk (a0 a1 a4 : Int) (x2 x3 : Option Addr) (l2 c2 l3 c3 : Nat) (z2 z3 : List Int) (marked short : Bool) (W : World)
    (w0 : (Lit.int .u16 a0).wf = true) (w1 : (Lit.int .u8 a1).wf = true) (w4 : (Lit.int .u32 a4).wf = true) (r2 : Raw W x2 l2 z2) (r3 : Raw W x3 l3 z3) (ht : Tab W) (hg : 0 < W.heap.size) :
    Calls Ybad.prog 3 #[.int .u16 a0, .int .u8 a1, .slice x2 l2 c2, .slice x3 l3 c3, .int .u32 a4, .bool marked, .bool short] W fun e w' => e = .returned (.bool true) ∧ Below W.heap.size W w' := by
  have b0 : 0 ≤ a0 ∧ a0 ≤ 65535 := wf_bounds .u16 0 65535 rfl rfl w0
  have b1 : 0 ≤ a1 ∧ a1 ≤ 255 := wf_bounds .u8 0 255 rfl rfl w1
  have b4 : 0 ≤ a4 ∧ a4 ≤ 4294967295 := wf_bounds .u32 0 4294967295 rfl rfl w4
  exact walk' a0 a1 a4 x2 x3 l2 c2 l3 c3 z2 z3 marked short (a0 * 1237 % 6200).toNat (((a0 * 1237 % 6200).toNat + 63) / 64) (1 + ((a0 * 1237 % 6200).toNat + 2047) / 2048) (a1 % 3).toNat ((a1 % 3).toNat + 1 + (a1 / 3 % 2).toNat) W r2 r3 ht hg
    (by omega) (by omega) b0 rfl rfl (by omega) (by omega) b1 (by omega) (by omega) (by omega) b4

set_option maxRecDepth 100000 in
theorem lifted (os : Os) (started : os.Started) (H : Type) (enc : TypeId × Value → H) :
    ReturnsInHanded {} Ybad.checked os 3 .any (fun w args => (Rows.lawS6667CWholeSpec.pre enc Ybad.prog Ybad.f3 [] false w args ∧ laidMetH Ybad.prog Rows.lawS6667CWholeRow.laid w) ∧ sizedMet enc Ybad.prog Ybad.f3 (OpenSpec.ofChange Rows.lawS6667CWholeSpec) false w args)
      (Rows.lawS6667CWholeSpec.post enc Ybad.prog Ybad.f3 false true false false) := by
  refine returnsInHanded_of_change_and (C := Ybad.checked) (X := fun w _ => laidMetH Ybad.prog Rows.lawS6667CWholeRow.laid w) (fun _ _ _ hh h => h.of_heap hh) own started (by kernel_rfl) Ybad.func3
    (ChangeSpec.witness_shaped (enc := enc) (C := Ybad.checked) (os := os) (X := fun w _ => laidMetH Ybad.prog Rows.lawS6667CWholeRow.laid w) false (World.doorLaid Ybad.prog 400 os) #[.int .u16 0, .int .u8 0, .slice none 0 0, .slice none 0 0, .int .u32 0, .bool false, .bool false] 8 rfl (World.shaped_of_RefB (by kernel_rfl) (by kernel_rfl)) (by kernel_rfl) (by kernel_rfl) (by kernel_rfl) (door_met os _)) ?_
  intro W base args ds gs before hval0 hW _ _ hL _
  have hval : ∀ (j : Nat) t v, Ybad.f3.params[j]? = some t → args[j]? = some v → Value.okWide Ybad.prog W .any base t v := hval0
  have hW' := hW
  obtain ⟨p, q, hA0, hV, rfl, hfz, hnd⟩ := hW
  have hA : DataW.TrodAll enc Ybad.prog W 0 (fun _ => true) true Ybad.f3.params.toList args.toList ds p := hA0
  rw [Ybad.params3] at hA hval
  obtain ⟨v0, vs0, d0, ds0, p0, q0, hargs, rfl, rfl, h0, r0⟩ := trodAll_cons hA
  obtain ⟨v1, vs1, d1, ds1, p1, q1, rfl, rfl, rfl, h1, r1⟩ := trodAll_cons r0
  obtain ⟨v2, vs2, d2, ds2, p2, q2, rfl, rfl, rfl, h2, r2⟩ := trodAll_cons r1
  obtain ⟨v3, vs3, d3, ds3, p3, q3, rfl, rfl, rfl, h3, r3⟩ := trodAll_cons r2
  obtain ⟨v4, vs4, d4, ds4, p4, q4, rfl, rfl, rfl, h4, r4⟩ := trodAll_cons r3
  obtain ⟨v5, vs5, d5, ds5, p5, q5, rfl, rfl, rfl, h5, r5⟩ := trodAll_cons r4
  obtain ⟨v6, vs6, d6, ds6, p6, q6, rfl, rfl, rfl, h6, r6⟩ := trodAll_cons r5
  obtain ⟨rfl, rfl, rfl⟩ := trodAll_nil r6
  obtain rfl : args = #[v0, v1, v2, v3, v4, v5, v6] := by cases args; simp_all
  obtain ⟨rfl, rfl⟩ := trodVars_none hV
  obtain ⟨a0, rfl, rfl, rfl, w0⟩ := open_int Ybad.underlying22 (hval 0 22 v0 rfl rfl) h0
  obtain ⟨a1, rfl, rfl, rfl, w1⟩ := open_int Ybad.underlying5 (hval 1 5 v1 rfl rfl) h1
  obtain ⟨x2, l2, c2, rfl⟩ := okWide_slice Ybad.underlying23 (hval 2 23 v2 rfl rfl)
  have k2 := h2
  have lt2 : ∀ x ∈ p2, x.block < W.heap.size := by obtain ⟨m, hm⟩ := k2; exact DataW.trod_lt m _ _ _ hm
  obtain ⟨z2, R2⟩ : ∃ z, Raw W x2 l2 z := by
    apply raw_of (c := c2)
    obtain ⟨fuel, hf⟩ := h2
    rcases open_ints Ybad.underlying23 Ybad.underlying26 (by kernel_rfl) hf with ⟨hcs, _⟩ | ⟨x, l, c, zs, hcs, _, hl, hm, hz, _, hcell, hwz⟩
    · simp [Value.cells] at hcs
      exact .inl hcs
    · simp [Value.cells] at hcs
      obtain ⟨rfl, rfl, rfl⟩ := hcs
      exact .inr ⟨_, zs, rfl, hl, hm, by simpa using hz, hcell, hwz⟩
  obtain ⟨x3, l3, c3, rfl⟩ := okWide_slice Ybad.underlying23 (hval 3 23 v3 rfl rfl)
  have k3 := h3
  have lt3 : ∀ x ∈ p3, x.block < W.heap.size := by obtain ⟨m, hm⟩ := k3; exact DataW.trod_lt m _ _ _ hm
  obtain ⟨z3, R3⟩ : ∃ z, Raw W x3 l3 z := by
    apply raw_of (c := c3)
    obtain ⟨fuel, hf⟩ := h3
    rcases open_ints Ybad.underlying23 Ybad.underlying26 (by kernel_rfl) hf with ⟨hcs, _⟩ | ⟨x, l, c, zs, hcs, _, hl, hm, hz, _, hcell, hwz⟩
    · simp [Value.cells] at hcs
      exact .inl hcs
    · simp [Value.cells] at hcs
      obtain ⟨rfl, rfl, rfl⟩ := hcs
      exact .inr ⟨_, zs, rfl, hl, hm, by simpa using hz, hcell, hwz⟩
  obtain ⟨a4, rfl, rfl, rfl, w4⟩ := open_int Ybad.underlying24 (hval 4 24 v4 rfl rfl) h4
  obtain ⟨a5, rfl, rfl, rfl⟩ := open_bool Ybad.underlying4 (hval 5 4 v5 rfl rfl) h5
  obtain ⟨a6, rfl, rfl, rfl⟩ := open_bool Ybad.underlying4 (hval 6 4 v6 rfl rfl) h6
  obtain ⟨ht, hg⟩ := tab_of_laid hL
  clear hA0 hval0
  refine (walk a0 a1 a4 x2 x3 l2 c2 l3 c3 z2 z3 a5 a6 W w0 w1 w4 R2 R3 ht hg).mono fun e W' ⟨he, bel⟩ => ?_
  subst he
  exact ⟨_, rfl, _, _, _, [], _, [], hW', trodAll_mk1 (shut_bool Ybad.underlying4 _), (trodAll_cons_mk (shut_int Ybad.underlying22 w0) (trodAll_cons_mk (shut_int Ybad.underlying5 w1) (trodAll_cons_mk (Below.trod laidOut (by kernel_rfl) (of_decide_eq_true (by kernel_rfl)) k2 bel lt2) (trodAll_cons_mk (Below.trod laidOut (by kernel_rfl) (of_decide_eq_true (by kernel_rfl)) k3 bel lt3) (trodAll_cons_mk (shut_int Ybad.underlying24 w4) (trodAll_cons_mk (shut_bool Ybad.underlying4 _) (trodAll_cons_mk (shut_bool Ybad.underlying4 _) trodAll_mk0))))))), rfl, bel.frame _, fun h => by cases h⟩

theorem row_holds : Rows.LawS6667CWholeSaid :=
  OpenClaim.holds_of_wide 3 Ybad.f3 rfl rfl rfl rfl rfl rfl rfl ⟨rfl, rfl, rfl, rfl, rfl⟩ rfl rfl rfl rfl rfl (by kernel_rfl) Ybad.func3 (by kernel_rfl)
    (of_decide_eq_true (by kernel_rfl)) (by unfold Func.isWrapper; first | (rw [if_pos (by decide +kernel)]; kernel_rfl) | (rw [if_neg (by decide +kernel)]; exact ⟨rfl, rfl⟩))
    (fun os started H enc _ => lifted os started H enc)
end Go.Proofs.YbulkehayDoor
