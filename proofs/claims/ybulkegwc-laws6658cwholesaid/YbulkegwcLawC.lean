/- The statement LawS6658CWholeSaid: the three roads of Tune put together; the frame is the given shell with Below in the place of Grown. -/
import Derived.Test.YbulkegwcLawCN
import Derived.Test.YbulkegwcLawCG
import Derived.Test.YbulkegwcLawCS
import Derived.ProofKit
import Derived.OpenShut
namespace Go.Proofs.Ybulkegwc.lawS6658CWhole
open Go.ChangeShapes Go.WideShapes Go.ChangeAt Go.RowKit
set_option linter.unusedVariables false

theorem own : ownKnob Yba.prog.godebug = none := by kernel_rfl

theorem mask_bd (a : Int) (h0 : 0 ≤ a) (h1 : a ≤ 4294967295) : ∃ x, bits .and .u32 a 2147483647 = x ∧ 0 ≤ x ∧ x ≤ 2147483647 :=
  ⟨_, rfl, by rw [mask31u a h0 h1]; omega, by rw [mask31u a h0 h1]; omega⟩

theorem walk (a0 : Int) (a1 : Bool) (a2 : Int) (a3 : Int) (a4 : Bool) (a5 : Int) (a6 : Int) (a7 : Bool) (a8 : Int) (a9 : Int) (w0 : (Lit.int .i64 a0).wf = true) (w2 : (Lit.int .u32 a2).wf = true) (w3 : (Lit.int .u32 a3).wf = true) (w5 : (Lit.int .u32 a5).wf = true) (w6 : (Lit.int .i32 a6).wf = true) (w8 : (Lit.int .u32 a8).wf = true) (w9 : (Lit.int .i64 a9).wf = true) (w : World) :
    Calls Yba.prog 5 #[.int .i64 a0, .bool a1, .int .u32 a2, .int .u32 a3, .bool a4, .int .u32 a5, .int .i32 a6, .bool a7, .int .u32 a8, .int .i64 a9] w fun e w' => e = .returned (.bool true) ∧ Below w.heap.size w w' := by
  have c0 := bounds_i64 w0
  have c2 := bounds_u32 w2
  have c3 := bounds_u32 w3
  have c5 := bounds_u32 w5
  have c8 := bounds_u32 w8
  obtain ⟨x, hx, x0, x1⟩ := mask_bd a2 c2.1 c2.2
  obtain ⟨s, hs, s0, s1⟩ := mask_bd a3 c3.1 c3.2
  obtain ⟨st, ht, t0, t1⟩ := mask_bd a5 c5.1 c5.2
  obtain ⟨idle, hi, i0, i1⟩ := mask_bd a8 c8.1 c8.2
  cases hn : noopB a0 a1 a9 with
  | true => exact law_noop a0 a1 a2 a3 a4 a5 a6 a7 a8 a9 x s st idle x0 x1 s0 s1 t0 t1 i0 i1 hx hs ht hi w hn
  | false =>
    simp [noopB] at hn
    obtain ⟨⟨⟨h1, h2⟩, h3⟩, h4⟩ := hn
    subst h2
    by_cases hg : a0 < a9
    · exact law_grow a0 a2 a3 a4 a5 a6 a7 a8 a9 x s st idle x0 x1 s0 s1 t0 t1 i0 i1 hx hs ht hi w h1 hg
    · exact law_shrink a0 a2 a3 a4 a5 a6 a7 a8 a9 x s st idle x0 x1 s0 s1 t0 t1 i0 i1 hx hs ht hi w h3 (by omega) c0.2

/-! ### THE ROW's STEP: WRITTEN OUT: LEAVE IT -/
set_option maxRecDepth 100000 in
theorem lifted (os : Os) (started : os.Started) (H : Type) (enc : TypeId × Value → H) :
    ReturnsInHanded {} Yba.checked os 5 .any (Rows.lawS6658CWholeSpec.pre6 enc Yba.prog Yba.f5 Rows.lawS6658CWholeRow.domain false) (Rows.lawS6658CWholeSpec.post enc Yba.prog Yba.f5 false true false false) := by
  refine returnsInHanded_of_change (C := Yba.checked) own started (by kernel_rfl) Yba.func5
    (ChangeSpec.witness6 (enc := enc) (C := Yba.checked) false ⟨#[], #[.int .i64 0, .bool false, .int .u32 0, .int .u32 0, .bool false, .int .u32 0, .int .i32 0, .bool false, .int .u32 0, .int .i64 0], []⟩ 8 (by kernel_rfl) (by kernel_rfl) (by kernel_rfl) (by kernel_rfl)) ?_
  intro W base args ds gs before hval0 hW hcnd _
  have hval : ∀ (j : Nat) t v, Yba.f5.params[j]? = some t → args[j]? = some v → Value.okWide Yba.prog W .any base t v := hval0
  have hW' := hW
  obtain ⟨p, q, hA0, hV, rfl, hfz, hnd⟩ := hW
  have hA : DataW.TrodAll enc Yba.prog W 0 (fun _ => true) true Yba.f5.params.toList args.toList ds p := hA0
  rw [Yba.params5] at hA hval
  obtain ⟨v0, vs0, d0, ds0, p0, q0, hargs, rfl, rfl, h0, r0⟩ := trodAll_cons hA
  obtain ⟨v1, vs1, d1, ds1, p1, q1, rfl, rfl, rfl, h1, r1⟩ := trodAll_cons r0
  obtain ⟨v2, vs2, d2, ds2, p2, q2, rfl, rfl, rfl, h2, r2⟩ := trodAll_cons r1
  obtain ⟨v3, vs3, d3, ds3, p3, q3, rfl, rfl, rfl, h3, r3⟩ := trodAll_cons r2
  obtain ⟨v4, vs4, d4, ds4, p4, q4, rfl, rfl, rfl, h4, r4⟩ := trodAll_cons r3
  obtain ⟨v5, vs5, d5, ds5, p5, q5, rfl, rfl, rfl, h5, r5⟩ := trodAll_cons r4
  obtain ⟨v6, vs6, d6, ds6, p6, q6, rfl, rfl, rfl, h6, r6⟩ := trodAll_cons r5
  obtain ⟨v7, vs7, d7, ds7, p7, q7, rfl, rfl, rfl, h7, r7⟩ := trodAll_cons r6
  obtain ⟨v8, vs8, d8, ds8, p8, q8, rfl, rfl, rfl, h8, r8⟩ := trodAll_cons r7
  obtain ⟨v9, vs9, d9, ds9, p9, q9, rfl, rfl, rfl, h9, r9⟩ := trodAll_cons r8
  obtain ⟨rfl, rfl, rfl⟩ := trodAll_nil r9
  obtain rfl : args = #[v0, v1, v2, v3, v4, v5, v6, v7, v8, v9] := by cases args; simp_all
  obtain ⟨rfl, rfl⟩ := trodVars_none hV
  obtain ⟨a0, rfl, rfl, rfl, w0⟩ := open_int Yba.underlying2 (hval 0 2 v0 rfl rfl) h0
  obtain ⟨a1, rfl, rfl, rfl⟩ := open_bool Yba.underlying4 (hval 1 4 v1 rfl rfl) h1
  obtain ⟨a2, rfl, rfl, rfl, w2⟩ := open_int Yba.underlying43 (hval 2 43 v2 rfl rfl) h2
  obtain ⟨a3, rfl, rfl, rfl, w3⟩ := open_int Yba.underlying43 (hval 3 43 v3 rfl rfl) h3
  obtain ⟨a4, rfl, rfl, rfl⟩ := open_bool Yba.underlying4 (hval 4 4 v4 rfl rfl) h4
  obtain ⟨a5, rfl, rfl, rfl, w5⟩ := open_int Yba.underlying43 (hval 5 43 v5 rfl rfl) h5
  obtain ⟨a6, rfl, rfl, rfl, w6⟩ := open_int Yba.underlying21 (hval 6 21 v6 rfl rfl) h6
  obtain ⟨a7, rfl, rfl, rfl⟩ := open_bool Yba.underlying4 (hval 7 4 v7 rfl rfl) h7
  obtain ⟨a8, rfl, rfl, rfl, w8⟩ := open_int Yba.underlying43 (hval 8 43 v8 rfl rfl) h8
  obtain ⟨a9, rfl, rfl, rfl, w9⟩ := open_int Yba.underlying3 (hval 9 3 v9 rfl rfl) h9
  clear hA0 hval0
  refine (walk a0 a1 a2 a3 a4 a5 a6 a7 a8 a9 w0 w2 w3 w5 w6 w8 w9 W).mono fun e W' ⟨he, bel⟩ => ?_
  subst he
  exact ⟨_, rfl, _, _, _, [], _, [], hW', trodAll_mk1 (shut_bool Yba.underlying4 _), (trodAll_cons_mk (shut_int Yba.underlying2 w0) (trodAll_cons_mk (shut_bool Yba.underlying4 _) (trodAll_cons_mk (shut_int Yba.underlying43 w2) (trodAll_cons_mk (shut_int Yba.underlying43 w3) (trodAll_cons_mk (shut_bool Yba.underlying4 _) (trodAll_cons_mk (shut_int Yba.underlying43 w5) (trodAll_cons_mk (shut_int Yba.underlying21 w6) (trodAll_cons_mk (shut_bool Yba.underlying4 _) (trodAll_cons_mk (shut_int Yba.underlying43 w8) (trodAll_cons_mk (shut_int Yba.underlying3 w9) trodAll_mk0)))))))))), rfl, bel.frame _, fun h => by cases h⟩

theorem over : Rows.lawS6658CWholeRow.holds Yba.pinned (OpenSpec.ofChange Rows.lawS6658CWholeSpec) :=
  OpenClaim.holds_of_wide 5 Yba.f5 rfl rfl rfl rfl rfl rfl rfl ⟨rfl, rfl, rfl, rfl, rfl⟩ rfl rfl rfl rfl rfl (by kernel_rfl) Yba.func5 (by kernel_rfl)
    (of_decide_eq_true (by kernel_rfl)) (by unfold Func.isWrapper; first | (rw [if_pos (by decide +kernel)]; kernel_rfl) | (rw [if_neg (by decide +kernel)]; exact ⟨rfl, rfl⟩))
    (fun os started H enc _ => lifted os started H enc)

/-- ████ THE STATEMENT ████ -/
theorem proved : Rows.LawS6658CWholeSaid :=
  over
#print axioms proved
end Go.Proofs.Ybulkegwc.lawS6658CWhole
