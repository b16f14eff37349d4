/- LawS6660CWhole: what == answers on keys, records and entries; what Entry answers over the table that the law lays. -/
import Derived.Test.YbulkegxeEntry
import Derived.ChangeKeysEq
import Derived.Laws.StructEq
import Derived.Laws.Rows
namespace Go.Proofs.Ybulkegxe
open Go.RowKit Go.Lib
set_option linter.unusedVariables false
set_option linter.unusedSimpArgs false
theorem neq64 (r : Rec) (w : World) : (binOp .neq 64 (.agg (recC r)) (.agg (recC r))).run Yba.prog w = .ok (.bool false) w := by
  unfold recC
  go_simp
theorem part5 (cs : Array Value) (i : Nat) (v : Value) (h : cs[i]? = some v) (w : World) : (part 5 cs (i * 1)).run Yba.prog w = .ok v w := by
  rw [Nat.mul_one]
  go_simp
theorem eqItems_keys (d : Nat) (x y : List Nat) (hx : x.length = 32) (hy : y.length = 32) (w : World) : ∀ is : List Nat, (∀ i ∈ is, i < 32) → (Op.eqItems (d + 1) 5 1 (kcells x) (kcells y) is).run Yba.prog w = .ok (is.all (fun i => x.getD i 0 == y.getD i 0)) w
  | [], _ => by simp [Op.eqItems]
  | i :: is, h => by
    have hi := h i (by simp)
    have ih := eqItems_keys d x y hx hy w is (fun j hj => h j (by simp [hj]))
    have p1 := part5 (kcells x) i _ (kcells_get x i (by omega)) w
    have p2 := part5 (kcells y) i _ (kcells_get y i (by omega)) w
    have p3 := run_equalIn_int (P := Yba.prog) w d 5 .u8 .u8 ((x.getD i 0 : Nat) : Int) ((y.getD i 0 : Nat) : Int) Yba.underlying5
    simp only [Op.eqItems, Sem.run_bind, p1, p2, p3, Result.andThen_ok, List.all_cons]
    by_cases e : x.getD i 0 = y.getD i 0
    · rw [e]; simp [ih]
    · have : (((x.getD i 0 : Nat) : Int) == ((y.getD i 0 : Nat) : Int)) = false := ne_beq e
      rw [this, beq_eq_false_iff_ne.2 e]; simp
theorem Yba.cells5' : Yba.prog.cellsOf 5 = 1 := by kernel_rfl
theorem all_range {x y : List Nat} (hx : x.length = 32) (hy : y.length = 32) : (List.range 32).all (fun i => x.getD i 0 == y.getD i 0) = decide (x = y) := by
  by_cases e : x = y
  · subst e; simp
  · rw [decide_eq_false e]
    apply Bool.eq_false_iff.2
    intro h
    apply e
    rw [List.all_eq_true] at h
    apply List.ext_getElem (by omega)
    intro i h1 h2
    have := h i (by simp; omega)
    simp only [beq_iff_eq] at this
    rw [List.getD_eq_getElem?_getD, List.getD_eq_getElem?_getD, List.getElem?_eq_getElem h1, List.getElem?_eq_getElem h2] at this
    simpa using this
theorem eq29 (d : Nat) (x y : List Nat) (hx : IsKey x) (hy : IsKey y) (w : World) : (Op.equalIn (d + 1 + 1) 29 (.agg (kcells x)) (.agg (kcells y))).run Yba.prog w = .ok (decide (x = y)) w := by
  obtain ⟨i, hi⟩ : ∃ i, Yba.prog.info? 5 = some i := Option.isSome_iff_exists.1 (by kernel_rfl)
  rw [run_equalIn_array w (d + 1) _ _ Yba.underlying29 hi, Yba.cells5', eqItems_keys d x y hx.len hy.len w _ (fun j hj => by simpa using hj), all_range hx.len hy.len]
theorem eql29 (x y : List Nat) (hx : IsKey x) (hy : IsKey y) (w : World) : (binOp .eql 29 (.agg (kcells x)) (.agg (kcells y))).run Yba.prog w = .ok (.bool (decide (x = y))) w := by
  rw [run_eql_struct, eq29 9998 x y hx hy]; rfl
theorem neq29 (x : List Nat) (hx : IsKey x) (w : World) : (binOp .neq 29 (.agg (kcells x)) (.agg (kcells x))).run Yba.prog w = .ok (.bool false) w := by
  rw [run_neq_struct, eq29 9998 x x hx hx]; simp
theorem eq38 (d : Nat) (wl : Nat) (ex : Int) (w : World) : (Op.equalIn (d + 1 + 1) 38 (timeV wl ex) (timeV wl ex)).run Yba.prog w = .ok true w := by
  have hp := run_equalIn_pointer_nil (P := Yba.prog) w d 36 none (by kernel_rfl)
  unfold timeV
  go_simp
theorem eqFields_refl (d : Nat) (xs : Array Value) (w : World) : ∀ fs : List Field, (∀ f ∈ fs, ∃ v, (part f.type xs f.offset).run Yba.prog w = .ok v w ∧ (Op.equalIn d f.type v v).run Yba.prog w = .ok true w) → (Op.eqFields d xs xs fs).run Yba.prog w = .ok true w
  | [], _ => by simp [Op.eqFields]
  | f :: fs, h => by
    obtain ⟨v, h1, h2⟩ := h f (by simp)
    have ih := eqFields_refl d xs w fs (fun g hg => h g (by simp [hg]))
    simp only [Op.eqFields, Sem.run_bind, Sem.run_ite]
    split
    · simp [h1, h2, ih]
    · exact ih
theorem Yba.fields72 : (Yba.prog.fieldsOf 72).toList.map (fun f => (f.type, f.offset)) = [(29, 0), (38, 32), (38, 35), (3, 38), (3, 39), (3, 40)] := by kernel_rfl
theorem part29 (k : List Nat) (hk : IsKey k) (n1 : Nat) (x1 : Int) (n2 : Nat) (x2 a b c : Int) (w : World) : (part 29 (entC k n1 x1 n2 x2 a b c) 0).run Yba.prog w = .ok (.agg (kcells k)) w := by
  obtain ⟨a0, a1, a2, a3, a4, a5, a6, a7, a8, a9, a10, a11, a12, a13, a14, a15, a16, a17, a18, a19, a20, a21, a22, a23, a24, a25, a26, a27, a28, a29, a30, a31, rfl⟩ := key_elems k hk
  kernel_rfl
theorem part38a (k : List Nat) (hk : IsKey k) (n1 : Nat) (x1 : Int) (n2 : Nat) (x2 a b c : Int) (w : World) : (part 38 (entC k n1 x1 n2 x2 a b c) 32).run Yba.prog w = .ok (timeV n1 x1) w := by
  obtain ⟨a0, a1, a2, a3, a4, a5, a6, a7, a8, a9, a10, a11, a12, a13, a14, a15, a16, a17, a18, a19, a20, a21, a22, a23, a24, a25, a26, a27, a28, a29, a30, a31, rfl⟩ := key_elems k hk
  kernel_rfl
theorem part38b (k : List Nat) (hk : IsKey k) (n1 : Nat) (x1 : Int) (n2 : Nat) (x2 a b c : Int) (w : World) : (part 38 (entC k n1 x1 n2 x2 a b c) 35).run Yba.prog w = .ok (timeV n2 x2) w := by
  obtain ⟨a0, a1, a2, a3, a4, a5, a6, a7, a8, a9, a10, a11, a12, a13, a14, a15, a16, a17, a18, a19, a20, a21, a22, a23, a24, a25, a26, a27, a28, a29, a30, a31, rfl⟩ := key_elems k hk
  kernel_rfl
theorem part3 (k : List Nat) (hk : IsKey k) (n1 : Nat) (x1 : Int) (n2 : Nat) (x2 a b c : Int) (w : World) : (part 3 (entC k n1 x1 n2 x2 a b c) 38).run Yba.prog w = .ok (.int .i64 a) w ∧ (part 3 (entC k n1 x1 n2 x2 a b c) 39).run Yba.prog w = .ok (.int .i64 b) w ∧ (part 3 (entC k n1 x1 n2 x2 a b c) 40).run Yba.prog w = .ok (.int .i64 c) w := by
  obtain ⟨a0, a1, a2, a3, a4, a5, a6, a7, a8, a9, a10, a11, a12, a13, a14, a15, a16, a17, a18, a19, a20, a21, a22, a23, a24, a25, a26, a27, a28, a29, a30, a31, rfl⟩ := key_elems k hk
  exact ⟨by kernel_rfl, by kernel_rfl, by kernel_rfl⟩
theorem eql72 (k : List Nat) (hk : IsKey k) (n1 : Nat) (x1 : Int) (n2 : Nat) (x2 a b c : Int) (w : World) : (binOp .eql 72 (.agg (entC k n1 x1 n2 x2 a b c)) (.agg (entC k n1 x1 n2 x2 a b c))).run Yba.prog w = .ok (.bool true) w := by
  have q1 := part29 k hk n1 x1 n2 x2 a b c w
  have q2 := part38a k hk n1 x1 n2 x2 a b c w
  have q3 := part38b k hk n1 x1 n2 x2 a b c w
  obtain ⟨q4, q5, q6⟩ := part3 k hk n1 x1 n2 x2 a b c w
  have r1 := eq29 9997 k k hk hk w
  rw [decide_eq_true rfl] at r1
  have r2 := eq38 9997 n1 x1 w
  have r3 := eq38 9997 n2 x2 w
  have r4 : ∀ n : Int, (Op.equalIn 9999 3 (.int .i64 n) (.int .i64 n)).run Yba.prog w = .ok true w := fun n => by
    have := run_equalIn_int (P := Yba.prog) w 9998 3 .i64 .i64 n n Yba.underlying3
    rw [this]; simp
  rw [run_eql_struct, run_equalIn_struct w 9999 72 _ _ (by kernel_rfl) (by kernel_rfl), eqFields_refl 9999 _ w _ ?_]
  · rfl
  · intro f hf
    have hm : (f.type, f.offset) ∈ (Yba.prog.fieldsOf 72).toList.map (fun f => (f.type, f.offset)) := List.mem_map.2 ⟨f, hf, rfl⟩
    rw [Yba.fields72] at hm
    simp only [List.mem_cons, Prod.mk.injEq, List.not_mem_nil, or_false] at hm
    rcases hm with ⟨h1, h2⟩ | ⟨h1, h2⟩ | ⟨h1, h2⟩ | ⟨h1, h2⟩ | ⟨h1, h2⟩ | ⟨h1, h2⟩ <;> rw [h1, h2]
    · exact ⟨_, q1, r1⟩
    · exact ⟨_, q2, r2⟩
    · exact ⟨_, q3, r3⟩
    · exact ⟨_, q4, r4 _⟩
    · exact ⟨_, q5, r4 _⟩
    · exact ⟨_, q6, r4 _⟩
theorem eql72_zero (w : World) : (binOp .eql 72 (.agg ent0) (.agg ent0)).run Yba.prog w = .ok (.bool true) w := eql72 _ ⟨by simp, fun z hz => by simp at hz; omega⟩ _ _ _ _ _ _ _ w

theorem wpList_alloc72 {ops : Array Oper} {rest : List Oper} {o : Oper} {a : Act} {w : World} {Q : Exit → Act → World → Prop} (hgd : o.guard = none) (ho : o.op = .alloc 72)
    (h : wpList Yba.prog ops Q rest (a.put o.dst (.pointer (some ⟨w.heap.size, 0, none⟩))) (w.alloc (.cells ent0 72))) : wpList Yba.prog ops Q (o :: rest) a w :=
  wpList_plain hgd fun K hK => wp_value o.dst _ rfl (run_alloc ho (alloc72_run w)) (hK _ _ h)
theorem quiet_load_rec {C : World → Prop} {K : Act → Prop} {a : Act} {o : Oper} (x : Operand) (ho : o.op = .load 64 x) (g off : Nat) (hx : a.eval x = .pointer (some ⟨g, off, none⟩)) (r : Rec) (hC : ∀ w, C w → RecAt w g off r)
    (hK : K (a.put o.dst (.agg (recC r)))) : o.quiet Yba.prog a C K := by
  refine ⟨.agg (recC r), fun w hw => ?_, hK⟩
  have h : (Instr.loadAt 64 (.pointer (some ⟨g, off, none⟩))).run Yba.prog w = .ok (.agg (recC r)) w := by
    have := run_loadAt_mid (P := Yba.prog) w g off 64 (recC r).toList _ (hC w hw) Yba.underlying64 rfl (by rw [Yba.size64]; rfl)
    simpa using this
  unfold Oper.quietAt execOp
  simp only [ho, hx, Sem.run_bind, h]
  exact ⟨rfl, rfl⟩
theorem wpList_wanted {ops : Array Oper} {rest : List Oper} {o : Oper} {a : Act} {w w' : World} {Q : Exit → Act → World → Prop} (hw : Region.wanted o (yielded ops a.tmps) = true) (v : Value) (hrun : (execOp a.eval o).run Yba.prog w = .ok (.value v) w')
    (h : wpList Yba.prog ops Q rest (a.put o.dst v) w') : wpList Yba.prog ops Q (o :: rest) a w :=
  wpList_step (P := Yba.prog) fun K hK => by
    rw [if_pos hw]
    exact wp_value o.dst v rfl hrun (hK _ _ h)
theorem load72 (g : Nat) (E : Array Value) (w : World) (hg : w.heap[g]? = some (.cells E 72 (0, 0))) (hE : E.size = 41) : (Instr.loadAt 72 (.pointer (some ⟨g, 0, none⟩))).run Yba.prog w = .ok (.agg E) w := by
  have hr : w.rangeAt g 0 E.toList := fun j v hj => by
    rw [Nat.zero_add, (row_cell hg j).1]; simpa using hj
  have := run_loadAt_mid (P := Yba.prog) w g 0 72 E.toList _ hr Yba.underlying72 rfl (by rw [Yba.size72, Array.length_toList, hE])
  simpa using this
theorem run_build {P : Program} {ρ : Operand → Value} {o : Oper} {t : TypeId} {parts : Array (Nat × Operand)} {vs : Array (Nat × Value)} {cells : Array Value} {w : World} (ho : o.op = .build t parts) (hvs : (parts.map fun (i, x) => (i, ρ x)) = vs) (hc : (Instr.build t vs).run P w = .ok (.agg cells) w) : (execOp ρ o).run P w = .ok (.value (.agg cells)) w := by
  unfold execOp; simp only [ho, hvs, Sem.run_bind, hc, Result.andThen_ok]; rfl
theorem run_eql72 {ρ : Operand → Value} {o : Oper} {t : TypeId} {x y : Operand} {E F : Array Value} {b : Bool} {w : World} (ho : o.op = .binOp .eql 72 x y t) (hx : ρ x = .agg E) (hy : ρ y = .agg F) (hr : (binOp .eql 72 (.agg E) (.agg F)).run Yba.prog w = .ok (.bool b) w) : (execOp ρ o).run Yba.prog w = .ok (.value (.bool b)) w := by
  have hg := run_eqGuard_agg (P := Yba.prog) w .eql 72 x y E F (by kernel_rfl)
  unfold execOp; simp only [ho, hx, hy, Sem.run_bind, hg, hr, Result.andThen_ok]; rfl
theorem entryR_form (ks : List (List Nat)) (rs : List Rec) (k : List Nat) (wl : Nat) (ex : Int) (r : Int) (hk : IsKey k) : ∃ (E : Array Value) (ok : Bool), entryR ks rs k wl ex r = .tuple #[.agg E, .bool ok] ∧ E.size = 41 ∧ E.all (·.oneCell') = true ∧ (r = -1 → E = ent0 ∧ ok = false) ∧
    (∀ i : Nat, r = (i : Int) → ok = true ∧ E = if (rs.getD i ⟨0, 0, 0, 0, 0, 0⟩).answered = -9223372036854775808 then entC k (addN wl (rs.getD i ⟨0, 0, 0, 0, 0, 0⟩).added) (addX ex (addC wl (rs.getD i ⟨0, 0, 0, 0, 0, 0⟩).added)) 0 0 (rs.getD i ⟨0, 0, 0, 0, 0, 0⟩).lookups (rs.getD i ⟨0, 0, 0, 0, 0, 0⟩).closer (rs.getD i ⟨0, 0, 0, 0, 0, 0⟩).failed
      else entC k (addN wl (rs.getD i ⟨0, 0, 0, 0, 0, 0⟩).added) (addX ex (addC wl (rs.getD i ⟨0, 0, 0, 0, 0, 0⟩).added)) (addN wl (rs.getD i ⟨0, 0, 0, 0, 0, 0⟩).answered) (addX ex (addC wl (rs.getD i ⟨0, 0, 0, 0, 0, 0⟩).answered)) (rs.getD i ⟨0, 0, 0, 0, 0, 0⟩).lookups (rs.getD i ⟨0, 0, 0, 0, 0, 0⟩).closer (rs.getD i ⟨0, 0, 0, 0, 0, 0⟩).failed) := by
  by_cases hr : r = -1
  · refine ⟨ent0, false, by rw [entryR, if_pos hr], ent0_size, entC_one _ _ _ _ _ _ _ _, fun _ => ⟨rfl, rfl⟩, fun i hi => by omega⟩
  · unfold entryR
    rw [if_neg hr]
    refine ⟨_, true, rfl, ?_, ?_, fun h => absurd h hr, fun i hi => ?_⟩
    · split <;> exact entC_size k hk _ _ _ _ _ _ _
    · split <;> exact entC_one _ _ _ _ _ _ _ _
    · subst hi
      rw [Int.toNat_natCast]
      exact ⟨rfl, rfl⟩
theorem wpList_load72_g {ops : Array Oper} {rest : List Oper} {o : Oper} {a : Act} {w : World} {Q : Exit → Act → World → Prop} (x : Operand) (ho : o.op = .load 72 x) (hw : Region.wanted o (yielded ops a.tmps) = true) (g : Nat) (E : Array Value) (hx : a.eval x = .pointer (some ⟨g, 0, none⟩)) (hg : w.heap[g]? = some (.cells E 72 (0, 0))) (hE : E.size = 41)
    (h : wpList Yba.prog ops Q rest (a.put o.dst (.agg E)) w) : wpList Yba.prog ops Q (o :: rest) a w :=
  wpList_wanted hw (.agg E) (run_load ho hx (load72 g E w hg hE)) h
theorem wpList_zero72_g {ops : Array Oper} {rest : List Oper} {o : Oper} {a : Act} {w : World} {Q : Exit → Act → World → Prop} (ho : o.op = .build 72 #[]) (hw : Region.wanted o (yielded ops a.tmps) = true)
    (h : wpList Yba.prog ops Q rest (a.put o.dst (.agg ent0)) w) : wpList Yba.prog ops Q (o :: rest) a w :=
  wpList_wanted hw (.agg ent0) (run_build (vs := #[]) ho (by simp) (ent_zero w)) h
theorem wpList_eql72_g {ops : Array Oper} {rest : List Oper} {o : Oper} {a : Act} {w : World} {Q : Exit → Act → World → Prop} (x y : Operand) (t : TypeId) (ho : o.op = .binOp .eql 72 x y t) (hw : Region.wanted o (yielded ops a.tmps) = true) (E : Array Value) (hx : a.eval x = .agg E) (hy : a.eval y = .agg E) (hr : (binOp .eql 72 (.agg E) (.agg E)).run Yba.prog w = .ok (.bool true) w)
    (h : wpList Yba.prog ops Q rest (a.put o.dst (.bool true)) w) : wpList Yba.prog ops Q (o :: rest) a w :=
  wpList_wanted hw (.bool true) (run_eql72 ho hx hy hr) h

theorem Full.left {w W W' : World} {sf k : List Nat} {n : Nat} {L : List Ent} {own lv : Bool} {G : Geo} {m : Nat} {LR LK LH LO : List Ent} (h : Full w W sf k n L own lv G m LR LK LH LO) (hl : Left W W' G.l) : Full w W' sf k n L own false G m LR LK LH LO := by
  obtain ⟨q0, q1, q2, q3, q4, q5, q6⟩ := hl
  obtain ⟨n1, n2, n3, n4⟩ := h.tab.ne
  obtain ⟨l1, l2, l3, l4, l5⟩ := h.tab.lt
  have hz := h.sz
  have g : Off G.l (fun b _ => b = G.l) W W' :=
    ⟨fun b o hb ht => World.cell?_of_block (w := W) (q2 b hb ht), fun b o hb ht => World.frozen?_of_block (w := W) (q2 b hb ht), fun b o n' hb hx ht j hj => by
      have := ht j hj
      rw [World.cell?_of_block (w := W) (a := ⟨b, o + j, none⟩) (q2 b hb hx), World.frozen?_of_block (w := W) (a := ⟨b, o + j, none⟩) (q2 b hb hx)]
      exact this, fun b hb ht => q2 b hb (ht 0), q3, q4, q5, q6⟩
  exact ⟨h.tab.off g (fun b o hb => Or.inr hb) h.hs, fun b hb => (h.bk b hb).off g (by omega) (by omega) l1 (fun o _ hh => by omega) (fun i o hi hh => by omega) (fun hw => by have := h.few hw b; omega), h.md, Nat.le_trans h.sz q3, h.few, h.hs, fun hv => by cases hv⟩

theorem getD_map_key (M : List Ent) (i : Nat) (hi : i < M.length) : (M.map Ent.key).getD i [] = (M[i]).key := by
  rw [List.getD_eq_getElem?_getD, List.getElem?_map, List.getElem?_eq_getElem hi]; rfl
theorem getD_map_rc (M : List Ent) (i : Nat) (hi : i < M.length) : (M.map Ent.rc).getD i ⟨0, 0, 0, 0, 0, 0⟩ = (M[i]).rc := by
  rw [List.getD_eq_getElem?_getD, List.getElem?_map, List.getElem?_eq_getElem hi]; rfl

theorem fullAt_of {w W W' : World} {sf k : List Nat} {n : Nat} {L : List Ent} {own lv : Bool} {G : Geo} (h : Full w W sf k n L own lv G G.d L L L L) (hn : L.length ≤ 65536) (hwf : WF sf k own L)
    (q2 : ∀ g, g < W.heap.size → g ≠ G.l → W'.heap[g]? = W.heap[g]?) (q3 : W.heap.size ≤ W'.heap.size) (b : Nat) (hb : b = cplN sf k) :
    FullAt W' G.tb G.B G.O G.d G.cap G.l G.wl G.ex sf k own (G.N + 3 * b + 1) (inB b L).length (G.N + 3 * b + 2) (inB b L).length (if b < G.d then G.N + 3 * b else G.tb) (inB b L).length ((inB b L).map Ent.key) ((inB b L).map Ent.rc) := by
  obtain ⟨n1, n2, n3, n4⟩ := h.tab.ne
  obtain ⟨l1, l2, l3, l4, l5⟩ := h.tab.lt
  have hz := h.sz
  have cl : ∀ g o, g < W.heap.size → g ≠ G.l → W'.cell? ⟨g, o, none⟩ = W.cell? ⟨g, o, none⟩ := fun g o hg hx => World.cell?_of_block (w := W) (q2 g hg hx)
  have rg : ∀ g o cs, g < W.heap.size → g ≠ G.l → W.rangeAt g o cs → W'.rangeAt g o cs := fun g o cs hg hx hr j v hj => by rw [cl g _ hg hx]; exact hr j v hj
  have hle : (inB b L).length ≤ L.length := List.length_filter_le _ _
  have hln : ((inB b L).map Ent.key).length = (inB b L).length := List.length_map ..
  subst hb
  refine ⟨⟨rg _ _ _ (by omega) (by omega) h.tab.slf, (cl _ _ (by omega) (by omega)).trans h.tab.c34, h.tab.d2, h.tab.near, by omega⟩, (cl _ _ (by omega) (by omega)).trans h.tab.c32, (cl _ _ (by omega) (by omega)).trans h.tab.e0, (cl _ _ (by omega) (by omega)).trans h.tab.e1, (cl _ _ (by omega) (by omega)).trans h.tab.e2, fun hd => ?_, fun hd => ?_, fun hd i hi => ?_, ?_, by simp⟩
  · have hB := h.bk _ hd
    refine ⟨(cl _ _ (by omega) (by omega)).trans hB.c2, by rw [hln]; exact (cl _ _ (by omega) (by omega)).trans hB.c4, by rw [hln]; exact (cl _ _ (by omega) (by omega)).trans hB.c5, ⟨fun i hi => ?_, fun i hi => ?_, fun i hi => ?_, by omega, ?_⟩, fun ho => by rw [hln]; exact h.few ho _, by omega, by omega, by omega⟩
    · rw [hln] at hi
      rw [getD_map_key _ _ hi]
      exact rg _ _ _ (by omega) (by omega) (hB.keys i _ (List.getElem?_eq_getElem hi))
    · rw [hln] at hi
      rw [getD_map_key _ _ hi]
      cases own with
      | true => exact (cl G.B _ (by omega) (by omega)).trans (hB.owns rfl i _ (List.getElem?_eq_getElem hi))
      | false =>
        show W'.cell? ⟨G.N + 3 * cplN sf k + 2, 0 + i, none⟩ = _
        rw [Nat.zero_add]
        exact (cl (G.N + 3 * cplN sf k + 2) _ (by omega) (by omega)).trans (hB.heads i _ (List.getElem?_eq_getElem hi))
    · rw [hln] at hi
      rw [getD_map_key _ _ hi]
      have hm : (inB (cplN sf k) L)[i] ∈ L := (mem_inB (List.getElem_mem hi)).1
      obtain ⟨i', hi', he⟩ := List.getElem_of_mem hm
      rw [← he]
      exact hwf.isKey i' _ (List.getElem?_eq_getElem hi')
    · cases own with
      | true => show G.B < _; omega
      | false => show G.N + 3 * cplN sf k + 2 < _; omega
  · rw [if_pos hd, hln]
    exact (cl _ _ (by omega) (by omega)).trans (h.bk _ hd).c3
  · rw [hln] at hi
    rw [if_pos hd, getD_map_rc _ _ hi]
    exact rg _ _ _ (by omega) (by omega) ((h.bk _ hd).recs i _ (List.getElem?_eq_getElem hi))
  · split <;> omega

/-- what Entry answers over the law's table -/
theorem entry_full {w W : World} {sf k : List Nat} {n : Nat} {L : List Ent} {own : Bool} {G : Geo} (h : Full w W sf k n L own true G G.d L L L L) (hn : L.length ≤ 65536) (hwf : WF sf k own L) (hs : IsKey sf) (hk : IsKey k) (hbn : ∀ e, e ∈ L → Bnd e.rc) :
    Calls Yba.prog 10 #[.pointer (some ⟨G.tb, 0, none⟩), keyV k] W fun e W' => ∃ r : Int, e = .returned (entryR ((inB (cplN sf k) L).map Ent.key) ((inB (cplN sf k) L).map Ent.rc) k G.wl G.ex r) ∧ FirstAt ((inB (cplN sf k) L).map Ent.key) k r ∧ Full w W' sf k n L own false G G.d L L L L ∧ W'.cell? ⟨G.l, 0, none⟩ = some (.int .i64 1) ∧ W'.cell? ⟨G.l, 1, none⟩ = some (.int .i64 1) := by
  have hlk := h.lk rfl
  refine (entry_any G.tb G.B G.O G.d G.cap G.l G.wl G.ex sf k own _ _ _ _ _ _ _ _ hs hk W (fun W' q2 q3 => fullAt_of h hn hwf q2 q3 _ rfl) hlk.l0 hlk.l1 hlk.f0 hlk.f1 h.tab.wlt (fun i hi => ?_)).mono ?_
  · rw [List.length_map] at hi
    rw [getD_map_rc _ _ hi]
    exact hbn _ (mem_inB (List.getElem_mem hi)).1
  · rintro e W' ⟨r, rfl, hr, hl⟩
    refine ⟨r, rfl, ?_, h.left hl, hl.1, hl.2.1⟩
    rcases hr with ⟨hd, rfl⟩ | ⟨_, hf⟩
    · rw [h.tab.dd] at hd
      rw [depthE_pos L _ hd]
      exact Or.inr ⟨rfl, fun j hj => by simp at hj⟩
    · exact hf
end Go.Proofs.Ybulkegxe
