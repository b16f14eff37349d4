import Derived.Test.YbulkegxeSize
import Derived.ProofKit
import Derived.OpenShut
import Derived.LaidEqlPtr
namespace Go.Proofs.Ybulkegxe.lawS6660BWhole
open Go.ChangeShapes Go.WideShapes Go.ChangeAt Go.RowKit
set_option linter.unusedVariables false

set_option maxRecDepth 100000 in
set_option maxHeartbeats 800000 in
theorem once_any (l g cap : Nat) (w : World) (c0 : w.cell? ⟨l, 0, none⟩ = some (.slice (some ⟨g, 0, none⟩) 2 cap)) (g0 : w.cell? ⟨g, 0, none⟩ = some (.int .u8 76)) (g1 : w.cell? ⟨g, 1, none⟩ = some (.int .u8 85)) :
    Calls Yba.prog 6 #[.pointer (some ⟨l, 0, none⟩)] w fun e w' => e = .returned (.bool true) ∧ w' = w := by
  go_enter Yba.func6, Yba.ntmps6
  go_wp2
  go_ret
  exact ⟨rfl, rfl⟩

theorem hide {p : Prop} (h : p) : Hid p := h

theorem neq_lock (a : Addr) (w : World) : (binOp .neq 31 (.iface 23 (.pointer (some a))) (.iface 23 (.pointer (some a)))).run Yba.prog w = .ok (.bool false) w := by
  obtain ⟨i, hi, hcmp⟩ : ∃ i, Yba.prog.info? 23 = some i ∧ i.comparable = true := Option.map_eq_some_iff.1 (show (Yba.prog.info? 23).map (·.comparable) = some true by kernel_rfl)
  obtain ⟨j, hj⟩ : ∃ j, Yba.prog.info? 26 = some j := Option.isSome_iff_exists.1 (by kernel_rfl)
  have h : ∀ d : Nat, (Op.equalIn (d + 1 + 1) 31 (.iface 23 (.pointer (some a))) (.iface 23 (.pointer (some a)))).run Yba.prog w = .ok true w := fun d => by
    simp [Op.equalIn, run_underlying Yba.underlying31, run_underlying Yba.underlying23, sizeOf, typeInfo, hi, hj, hcmp, run_sameAddr_same]
  simp only [binOp]
  simp [Op.equal, Op.maxDepth, h 9998]
theorem nil34 (w : World) : (binOp .eql 34 (.slice none 0 0) (.slice none 0 0)).run Yba.prog w = .ok (.bool true) w := by kernel_rfl
theorem nil35 (w : World) : (binOp .eql 35 (.slice none 0 0) (.slice none 0 0)).run Yba.prog w = .ok (.bool true) w := by kernel_rfl

def aggOf : Result Value → Array Value
  | .ok (.agg C) _ => C
  | _ => #[]

/-- the table as the literal builds it -/
theorem table_built (p : Value) (hp : ∃ a, p = .iface 23 (.pointer (some a))) (sz tk ids bs ne : Int) : ∃ C : Array Value, (∀ w, (Instr.build 51 #[(1, p), (11, .int .i64 sz), (12, .int .u64 tk), (13, .int .u64 ids), (5, .int .i64 bs), (6, .int .i32 ne)]).run Yba.prog w = .ok (.agg C) w) ∧
    C[32]? = some p ∧ C[34]? = some (.slice none 0 0) ∧ C[36]? = some (.int .i64 bs) ∧ C[37]? = some (.int .i32 ne) ∧ C[44]? = some (.int .i64 sz) ∧ C[45]? = some (.int .u64 tk) ∧ C[46]? = some (.int .u64 ids) ∧ C[50]? = some (.slice none 0 0) := by
  obtain ⟨a, rfl⟩ := hp
  refine ⟨aggOf ((Instr.build 51 #[(1, .iface 23 (.pointer (some a))), (11, .int .i64 sz), (12, .int .u64 tk), (13, .int .u64 ids), (5, .int .i64 bs), (6, .int .i32 ne)]).run Yba.prog default), ?_, ?_, ?_, ?_, ?_, ?_, ?_, ?_, ?_⟩
  · intro w; kernel_rfl
  all_goals kernel_rfl

set_option maxRecDepth 100000 in
theorem wpList_build51 {w : World} {ops : Array Oper} {rest : List Oper} {o : Oper} {a : Act} {Q : Exit → Act → World → Prop} {C : Array Value} {p : Value} {sz tk ids bs ne : Int}
    (hC : ∀ w, (Instr.build 51 #[(1, p), (11, .int .i64 sz), (12, .int .u64 tk), (13, .int .u64 ids), (5, .int .i64 bs), (6, .int .i32 ne)]).run Yba.prog w = .ok (.agg C) w)
    (hgd : o.guard = none) (ho : o.op = .build 51 #[(1, .tmp 17), (11, .tmp 18), (12, .tmp 19), (13, .tmp 20), (5, .tmp 21), (6, .tmp 22)])
    (e1 : a.eval (.tmp 17) = p) (e2 : a.eval (.tmp 18) = .int .i64 sz) (e3 : a.eval (.tmp 19) = .int .u64 tk) (e4 : a.eval (.tmp 20) = .int .u64 ids) (e5 : a.eval (.tmp 21) = .int .i64 bs) (e6 : a.eval (.tmp 22) = .int .i32 ne)
    (h : wpList Yba.prog ops Q rest (a.put o.dst (.agg C)) w) : wpList Yba.prog ops Q (o :: rest) a w := by
  refine wpList_plain hgd fun K hK => ?_
  have hrun : (execOp a.eval o).run Yba.prog w = .ok (.value (.agg C)) w := by
    simp only [execOp, ho, List.map_toArray, List.map_cons, List.map_nil, e1, e2, e3, e4, e5, e6]
    rw [Sem.run_bind, hC]
    simp
  unfold Oper.wp
  rw [hrun]
  exact hK _ _ h

set_option maxRecDepth 100000 in
set_option maxHeartbeats 800000 in
theorem walk (a0 a1 a2 a3 a4 : Int) (w : World) :
    Calls Yba.prog 3 #[.int .i64 a0, .int .u64 a1, .int .u64 a2, .int .i64 a3, .int .i32 a4] w fun e w' => e = .returned (.bool true) ∧ Below w.heap.size w w' := by
  obtain ⟨C, hC, k32, k34, k36, k37, k44, k45, k46, k50⟩ := table_built (.iface 23 (.pointer (some ⟨w.heap.size, 0, none⟩))) ⟨_, rfl⟩ a0 a1 a2 a3 a4
  have HC := hide hC
  clear hC
  go_enter Yba.func3, Yba.ntmps3
  go_wp2_with (refine wpList_build51 HC.out rfl rfl rfl rfl rfl rfl rfl rfl ?_)
  have hl : ((w.alloc (.cells #[.slice none 0 0] 26)).alloc (.cells C 51)).heap[w.heap.size]? = some (.cells #[.slice none 0 0] 26 (0, 0)) := by
    rw [Below.heap_alloc _ _ _ (by simp), (MapKept.heap_alloc w _).1]
  have ht : ((w.alloc (.cells #[.slice none 0 0] 26)).alloc (.cells C 51)).heap[w.heap.size + 1]? = some (.cells C 51 (0, 0)) := by
    have := (MapKept.heap_alloc (w.alloc (.cells #[.slice none 0 0] 26)) (.cells C 51)).1
    simpa using this
  have cC : ∀ j, ((w.alloc (.cells #[.slice none 0 0] 26)).alloc (.cells C 51)).cell? ⟨w.heap.size + 1, j, none⟩ = C[j]? := by intro j; unfold World.cell?; rw [ht]; simp
  refine (size_any (w.heap.size + 2) w.heap.size (w.heap.size + 1) (.slice none 0 0) a0 _ hl (by omega) (by omega) (by omega) (by simp) (World.ownsRow_nil _ _ _ _) ((cC 32).trans k32) ((cC 44).trans k44)).mono ?_
  rintro e w1 ⟨rfl, v, r1, r2, r3, r4, r5, r6, r7, r8⟩
  have ht1 : w1.heap[w.heap.size + 1]? = some (.cells C 51 (0, 0)) := (r3 _ (by omega) (by omega)).trans ht
  have cD : ∀ j, w1.cell? ⟨w.heap.size + 1, j, none⟩ = C[j]? := by intro j; unfold World.cell?; rw [ht1]; simp
  obtain ⟨g, cap, hv, g0, g1⟩ : ∃ g cap, v = .slice (some ⟨g, 0, none⟩) 2 cap ∧ w1.cell? ⟨g, 0, none⟩ = some (.int .u8 76) ∧ w1.cell? ⟨g, 1, none⟩ = some (.int .u8 85) := by
    obtain ⟨_, h | ⟨g, cap, cur, hv, hg, hh, q1, q2, q3, q4⟩⟩ := r2
    · omega
    · refine ⟨g, cap, hv, ?_, ?_⟩
      · have h0 : cur.toList[0]? = some (.int .u8 76) := by
          have := congrArg (fun l => l[0]?) q4
          simpa [List.getElem?_take] using this
        simp [World.cell?, hh]
        simpa using h0
      · have h0 : cur.toList[1]? = some (.int .u8 85) := by
          have := congrArg (fun l => l[1]?) q4
          simpa [List.getElem?_take] using this
        simp [World.cell?, hh]
        simpa using h0
  have c0 : w1.cell? ⟨w.heap.size, 0, none⟩ = some (.slice (some ⟨g, 0, none⟩) 2 cap) := by rw [← hv]; simp [World.cell?, r1]
  have d32 := (cD 32).trans k32
  have d34 := (cD 34).trans k34
  have d36 := (cD 36).trans k36
  have d37 := (cD 37).trans k37
  have d44 := (cD 44).trans k44
  have d45 := (cD 45).trans k45
  have d46 := (cD 46).trans k46
  have d50 := (cD 50).trans k50
  have HB : Hid (Below w.heap.size w w1) := by
    refine ⟨r6, r7, r8, by simp at r5; omega, fun k hk => ?_⟩
    rw [r3 k (by omega) (by omega), Below.heap_alloc _ _ _ (by simp; omega), Below.heap_alloc _ _ _ hk]
  clear hl ht cC k32 k34 k36 k37 k44 k45 k46 k50 r1 r2 r3 r4 r5 r6 r7 r8 ht1 cD hv HC
  have n1 := neq_lock ⟨w.heap.size, 0, none⟩
  have n2 := nil34
  have n3 := nil35
  go_wp2_with (go_at_call 6; refine (once_any _ g cap _ c0 g0 g1).mono ?_; rintro e w' ⟨rfl, rfl⟩)
  go_ret
  exact ⟨rfl, HB.out⟩

theorem own : ownKnob Yba.prog.godebug = none := by kernel_rfl

/-! ### THE ROW's STEP: WRITTEN OUT: LEAVE IT -/
set_option maxRecDepth 100000 in
theorem lifted (os : Os) (started : os.Started) (H : Type) (enc : TypeId × Value → H) :
    ReturnsInHanded {} Yba.checked os 3 .any (Rows.lawS6660BWholeSpec.pre6 enc Yba.prog Yba.f3 Rows.lawS6660BWholeRow.domain false) (Rows.lawS6660BWholeSpec.post enc Yba.prog Yba.f3 false true false false) := by
  refine returnsInHanded_of_change (C := Yba.checked) own started (by kernel_rfl) Yba.func3
    (ChangeSpec.witness6 (enc := enc) (C := Yba.checked) false ⟨#[], #[.int .i64 0, .int .u64 0, .int .u64 0, .int .i64 0, .int .i32 0], []⟩ 8 (by kernel_rfl) (by kernel_rfl) (by kernel_rfl) (by kernel_rfl)) ?_
  intro W base args ds gs before hval0 hW hcnd _
  have hval : ∀ (j : Nat) t v, Yba.f3.params[j]? = some t → args[j]? = some v → Value.okWide Yba.prog W .any base t v := hval0
  have hW' := hW
  obtain ⟨p, q, hA0, hV, rfl, hfz, hnd⟩ := hW
  have hA : DataW.TrodAll enc Yba.prog W 0 (fun _ => true) true Yba.f3.params.toList args.toList ds p := hA0
  rw [Yba.params3] at hA hval
  obtain ⟨v0, vs0, d0, ds0, p0, q0, hargs, rfl, rfl, h0, r0⟩ := trodAll_cons hA
  obtain ⟨v1, vs1, d1, ds1, p1, q1, rfl, rfl, rfl, h1, r1⟩ := trodAll_cons r0
  obtain ⟨v2, vs2, d2, ds2, p2, q2, rfl, rfl, rfl, h2, r2⟩ := trodAll_cons r1
  obtain ⟨v3, vs3, d3, ds3, p3, q3, rfl, rfl, rfl, h3, r3⟩ := trodAll_cons r2
  obtain ⟨v4, vs4, d4, ds4, p4, q4, rfl, rfl, rfl, h4, r4⟩ := trodAll_cons r3
  obtain ⟨rfl, rfl, rfl⟩ := trodAll_nil r4
  obtain rfl : args = #[v0, v1, v2, v3, v4] := by cases args; simp_all
  obtain ⟨rfl, rfl⟩ := trodVars_none hV
  obtain ⟨a0, rfl, rfl, rfl, w0⟩ := open_int Yba.underlying3 (hval 0 3 v0 rfl rfl) h0
  obtain ⟨a1, rfl, rfl, rfl, w1⟩ := open_int Yba.underlying22 (hval 1 22 v1 rfl rfl) h1
  obtain ⟨a2, rfl, rfl, rfl, w2⟩ := open_int Yba.underlying22 (hval 2 22 v2 rfl rfl) h2
  obtain ⟨a3, rfl, rfl, rfl, w3⟩ := open_int Yba.underlying3 (hval 3 3 v3 rfl rfl) h3
  obtain ⟨a4, rfl, rfl, rfl, w4⟩ := open_int Yba.underlying21 (hval 4 21 v4 rfl rfl) h4
  clear hA0 hval0
  refine (walk a0 a1 a2 a3 a4 W).mono fun e W' ⟨he, bel⟩ => ?_
  subst he
  exact ⟨_, rfl, _, _, _, [], _, [], hW', trodAll_mk1 (shut_bool Yba.underlying4 _), (trodAll_cons_mk (shut_int Yba.underlying3 w0) (trodAll_cons_mk (shut_int Yba.underlying22 w1) (trodAll_cons_mk (shut_int Yba.underlying22 w2) (trodAll_cons_mk (shut_int Yba.underlying3 w3) (trodAll_cons_mk (shut_int Yba.underlying21 w4) trodAll_mk0))))), rfl, bel.frame _, fun h => by cases h⟩

theorem over : Rows.lawS6660BWholeRow.holds Yba.pinned (OpenSpec.ofChange Rows.lawS6660BWholeSpec) :=
  OpenClaim.holds_of_wide 3 Yba.f3 rfl rfl rfl rfl rfl rfl rfl ⟨rfl, rfl, rfl, rfl, rfl⟩ rfl rfl rfl rfl rfl (by kernel_rfl) Yba.func3 (by kernel_rfl)
    (of_decide_eq_true (by kernel_rfl)) (by unfold Func.isWrapper; first | (rw [if_pos (by decide +kernel)]; kernel_rfl) | (rw [if_neg (by decide +kernel)]; exact ⟨rfl, rfl⟩))
    (fun os started H enc _ => lifted os started H enc)

/-- ████ THE STATEMENT ████ -/
theorem proved : Rows.LawS6660BWholeSaid :=
  over
#print axioms proved
end Go.Proofs.Ybulkegxe.lawS6660BWhole
