/- LawS6660CWhole: the statement. -/
import Derived.Test.YbulkegxeWalkC
import Derived.Test.YbulkegxeOpen
namespace Go.Proofs.Ybulkegxe.lawS6660CWhole
open Go.ChangeShapes Go.WideShapes Go.ChangeAt Go.RowKit
set_option linter.unusedVariables false

theorem laid : laidOutB Yba.prog = true := by kernel_rfl
theorem own : ownKnob Yba.prog.godebug = none := by kernel_rfl

set_option maxRecDepth 100000 in
/-- an array of 32 bytes -/
theorem open_key {H : Type} {enc : TypeId × Value → H} {w : World} {base : Nat} {sp : Nat → Bool} {held : Bool} {r : Reach} {b0 : Nat} {v : Value} {d : DataW H} {ps : List MemPlace} (hval : Value.okWide Yba.prog w r b0 28 v) (hd : DataW.Trod enc Yba.prog w base sp held 28 v d ps) : ∃ x : List Nat, IsKey x ∧ v = keyV x := by
  unfold Value.okWide at hval
  rw [Yba.underlying28] at hval
  obtain ⟨cs, rfl, _, _⟩ := hval
  obtain ⟨fuel, hf⟩ := hd
  obtain ⟨h1, h2⟩ := key_of_trod (cs := cs.toList) hf
  refine ⟨natsOf cs.toList, h1, ?_⟩
  unfold keyV
  congr 1
  apply Array.toList_inj.1
  exact h2

theorem list_of {P : Nat → Inp → Prop} : ∀ n : Nat, (∀ i, i < n → ∃ r, P i r) → ∃ rs : List Inp, rs.length = n ∧ ∀ (i : Nat) (r : Inp), rs[i]? = some r → P i r
  | 0, _ => ⟨[], rfl, fun i r h => by simp at h⟩
  | n + 1, h => by
    obtain ⟨rs, h1, h2⟩ := list_of n (fun i hi => h i (by omega))
    obtain ⟨r, hr⟩ := h n (by omega)
    refine ⟨rs ++ [r], by simp [h1], fun i x hx => ?_⟩
    rcases snoc_get hx with ⟨_, hg⟩ | ⟨hi, rfl⟩
    · exact h2 i x hg
    · rw [hi, h1]; exact hr

set_option maxRecDepth 100000 in
/-- the slice of inputs -/
theorem open_recs {H : Type} {enc : TypeId × Value → H} {w : World} {held : Bool} {r : Reach} {b0 : Nat} {v : Value} {d : DataW H} {ps : List MemPlace} (hval : Value.okWide Yba.prog w r b0 55 v) (hd : DataW.Trod enc Yba.prog w 0 (fun _ => true) held 55 v d ps) :
    ∃ (ra : Option Addr) (rl rc : Nat) (rs : List Inp), v = .slice ra rl rc ∧ rs.length = rl ∧ (∀ (i : Nat) (x : Inp), rs[i]? = some x → InpOk x) ∧ (rl = 0 ∨ ∃ b off, ra = some ⟨b, off, none⟩ ∧ b < w.heap.size ∧ ∀ (i : Nat) (x : Inp), rs[i]? = some x → InpAt w b (off + i * 39) x) := by
  obtain ⟨ra, rl, rc, rfl⟩ := okWide_slice Yba.underlying55 hval
  obtain ⟨fuel, hf⟩ := hd
  rcases Go.Deep.open_slice Yba.underlying55 hf with ⟨h0, _⟩ | ⟨a, len, cap, m, n, D, Pl, h0, hb, hl, hm, hmm, _, hx⟩
  · simp [Value.cells] at h0
    obtain ⟨rfl, rfl, rfl⟩ := h0
    exact ⟨none, 0, 0, [], rfl, rfl, fun i x hx => by simp at hx, Or.inl rfl⟩
  · simp [Value.cells] at h0
    obtain ⟨rfl, rfl, rfl⟩ := h0
    simp only [if_true] at hmm
    subst hmm
    rw [Yba.cells59'] at hx
    obtain ⟨rs, h1, h2⟩ := list_of (P := fun i x => InpOk x ∧ w.cells? 0 (a.add (i * 39)) 39 = some (inpC x).toList) rl (fun i hi => by
      obtain ⟨cs', g1, g2⟩ := hx i (by omega)
      obtain ⟨x, hx1, rfl⟩ := inp_of_trod g2
      exact ⟨x, hx1, g1⟩)
    refine ⟨some a, rl, _, rs, rfl, h1, fun i x hx => (h2 i x hx).1, ?_⟩
    by_cases hz : rl = 0
    · exact Or.inl hz
    · right
      obtain ⟨x0, hx0⟩ : ∃ x0, rs[0]? = some x0 := ⟨rs[0]'(by omega), List.getElem?_eq_getElem _⟩
      have hc0 := (h2 0 x0 hx0).2
      obtain ⟨_, hl0, hc⟩ := World.cells?_some hc0
      have hca := hc 0 (by omega)
      rw [Nat.zero_mul] at hca
      have ha : (a.add 0).add 0 = a := by simp [Addr.add]
      rw [ha, List.getElem?_eq_getElem (by omega)] at hca
      have hsp := World.cell?_spot hca
      have hbl := World.block_lt_of_cell? w a hca
      obtain ⟨b, off, sp⟩ := a
      simp only at hsp hbl
      subst hsp
      refine ⟨b, off, rfl, hbl, fun i x hx => ?_⟩
      obtain ⟨_, hli, hci⟩ := World.cells?_some (h2 i x hx).2
      intro j v hj
      have hjl : j < 39 := by
        have := (List.getElem?_eq_some_iff.1 hj).1
        omega
      have := hci j hjl
      rw [Addr.add_mid, Addr.add_mid] at this
      rw [this]; exact hj

/-! ### the row's step -/
set_option maxRecDepth 100000 in
theorem lifted (os : Os) (started : os.Started) (H : Type) (enc : TypeId × Value → H) :
    ReturnsInHanded {} Yba.checked os 4 .any (Rows.lawS6660CWholeSpec.pre6 enc Yba.prog Yba.f4 Rows.lawS6660CWholeRow.domain false) (Rows.lawS6660CWholeSpec.post enc Yba.prog Yba.f4 false true false false) := by
  refine returnsInHanded_of_change (C := Yba.checked) own started (by kernel_rfl) Yba.func4
    (ChangeSpec.witness6 (enc := enc) (C := Yba.checked) false ⟨#[], #[.agg (Array.replicate 32 (.int .u8 0)), .agg (Array.replicate 32 (.int .u8 0)), .slice none 0 0, .int .i64 0, .bool false], []⟩ 8 (by kernel_rfl) (by kernel_rfl) (by kernel_rfl) (by kernel_rfl)) ?_
  intro W base args ds gs before hval0 hW hcnd _
  have hval : ∀ (j : Nat) t v, Yba.f4.params[j]? = some t → args[j]? = some v → Value.okWide Yba.prog W .any base t v := hval0
  have hW' := hW
  obtain ⟨p, q, hA0, hV, rfl, hfz, hnd⟩ := hW
  have hA : DataW.TrodAll enc Yba.prog W 0 (fun _ => true) true Yba.f4.params.toList args.toList ds p := hA0
  rw [Yba.params4] at hA hval
  obtain ⟨v0, vs0, d0, ds0, p0, q0, hargs, rfl, rfl, h0, r0⟩ := trodAll_cons hA
  obtain ⟨v1, vs1, d1, ds1, p1, q1, rfl, rfl, rfl, h1, r1⟩ := trodAll_cons r0
  obtain ⟨v2, vs2, d2, ds2, p2, q2, rfl, rfl, rfl, h2, r2⟩ := trodAll_cons r1
  obtain ⟨v3, vs3, d3, ds3, p3, q3, rfl, rfl, rfl, h3, r3⟩ := trodAll_cons r2
  obtain ⟨v4, vs4, d4, ds4, p4, q4, rfl, rfl, rfl, h4, r4⟩ := trodAll_cons r3
  obtain ⟨rfl, rfl, rfl⟩ := trodAll_nil r4
  obtain rfl : args = #[v0, v1, v2, v3, v4] := by cases args; simp_all
  obtain ⟨rfl, rfl⟩ := trodVars_none hV
  have hlt : ∀ {t : TypeId} {v : Value} {d : DataW H} {ps : List MemPlace}, DataW.Trod enc Yba.prog W 0 (fun _ => true) true t v d ps → ∀ x ∈ ps, x.block < W.heap.size := fun h x hx => by
    obtain ⟨fuel, hf⟩ := h
    exact DataW.trod_lt fuel _ _ _ hf x hx
  obtain ⟨x0, k0, rfl⟩ := open_key (hval 0 28 v0 rfl rfl) h0
  obtain ⟨x1, k1, rfl⟩ := open_key (hval 1 28 v1 rfl rfl) h1
  obtain ⟨ra, rl, rc, rs, rfl, hlen, hgood, hrecs⟩ := open_recs (hval 2 55 v2 rfl rfl) h2
  obtain ⟨a3, rfl, rfl, rfl, w3⟩ := open_int Yba.underlying2 (hval 3 2 v3 rfl rfl) h3
  obtain ⟨a4, rfl, rfl, rfl⟩ := open_bool Yba.underlying4 (hval 4 4 v4 rfl rfl) h4
  clear hA0 hval0
  have hw3 := i64_wf w3
  have hwalk : Calls Yba.prog 4 #[keyV x0, keyV x1, .slice ra rl rc, .int .i64 a3, .bool a4] W fun e w' => e = .returned (.bool true) ∧ Below W.heap.size W w' := by
    by_cases hrl : rl ≤ 65536
    · exact walkC x0 x1 k0 k1 ra rl rc rs a3 a4 W hrl hlen hw3.1 hw3.2 hgood hrecs
    · exact walk_big x0 x1 ra rl rc a3 a4 W (by omega)
  refine hwalk.mono fun e W' ⟨he, bel⟩ => ?_
  subst he
  exact ⟨_, rfl, _, _, _, [], _, [], hW', trodAll_mk1 (shut_bool Yba.underlying4 _), (trodAll_cons_mk (Below.trod laid (by kernel_rfl) (of_decide_eq_true (by kernel_rfl)) h0 bel (hlt h0)) (trodAll_cons_mk (Below.trod laid (by kernel_rfl) (of_decide_eq_true (by kernel_rfl)) h1 bel (hlt h1)) (trodAll_cons_mk (Below.trod laid (by kernel_rfl) (of_decide_eq_true (by kernel_rfl)) h2 bel (hlt h2)) (trodAll_cons_mk (shut_int Yba.underlying2 w3) (trodAll_cons_mk (shut_bool Yba.underlying4 _) trodAll_mk0))))), rfl, bel.frame _, fun h => by cases h⟩

theorem over : Rows.lawS6660CWholeRow.holds Yba.pinned (OpenSpec.ofChange Rows.lawS6660CWholeSpec) :=
  OpenClaim.holds_of_wide 4 Yba.f4 rfl rfl rfl rfl rfl rfl rfl ⟨rfl, rfl, rfl, rfl, rfl⟩ rfl rfl rfl rfl rfl (by kernel_rfl) Yba.func4 (by kernel_rfl)
    (of_decide_eq_true (by kernel_rfl)) (by unfold Func.isWrapper; first | (rw [if_pos (by decide +kernel)]; kernel_rfl) | (rw [if_neg (by decide +kernel)]; exact ⟨rfl, rfl⟩))
    (fun os started H enc _ => lifted os started H enc)

/-- the statement -/
theorem proved : Rows.LawS6660CWholeSaid :=
  over
#print axioms proved
end Go.Proofs.Ybulkegxe.lawS6660CWhole
