/- LawS6660CWhole: regions that draw their order and end in a store: everything that reads is taken first, under a condition that the last operation alone may break; the frame is a letter. -/
import Derived.Test.YbulkegxeTab
import Derived.OrdersHeld
import Derived.Deep.RegionHeld3
namespace Go.Proofs.Ybulkegxe
open Go.RowKit Go.Lib
set_option linter.unusedVariables false

section
variable {P : Program} {ops : Array Oper} {Q : Exit → Act → World → Prop} {md : Region.Mode} {S : World → Prop} {z : Nat}

/-- whatever order is picked, and S holds behind every operation but number z -/
def wpAnyT (P : Program) (md : Region.Mode) (ops : Array Oper) (Q : Exit → Act → World → Prop) (S : World → Prop) (z : Nat) : Nat → Array Bool → Act → World → Prop
  | 0, listed, a, w => Region.ready md ops listed = [] ∧ Q .normal a w
  | fuel + 1, listed, a, w =>
    (Region.ready md ops listed = [] → Q .normal a w) ∧
    ∀ i ∈ Region.ready md ops listed, wpOp P ops Q i (fun a' w' => (i = z ∨ S w') ∧ wpAnyT P md ops Q S z fuel (listed.setIfInBounds i true) a' w') a w

theorem wpAny_of_T : ∀ (fuel : Nat) (listed : Array Bool) (a : Act) (w : World), wpAnyT P md ops Q S z fuel listed a w → wpAny P md ops Q fuel listed a w
  | 0, _, _, _, h => h
  | fuel + 1, _, _, _, h => ⟨h.1, fun i hi => wpOp_mono (fun a' w' h' => wpAny_of_T fuel _ a' w' h'.2) (h.2 i hi)⟩

/-- does number z wait for number i? -/
def waitsFor (md : Region.Mode) (ops : Array Oper) (z i : Nat) : Bool :=
  match ops[z]? with
  | some o => o.after.toList.any (fun e => Region.binds md e && e.on == i)
  | none => false
theorem waitsFor_spec {i : Nat} (h : waitsFor md ops z i = true) (o : Oper) (ho : ops[z]? = some o) (hno : ∀ e ∈ o.after, Region.binds md e = true → e.on ≠ i) : False := by
  unfold waitsFor at h
  rw [ho] at h
  simp only [List.any_eq_true, Bool.and_eq_true, beq_iff_eq] at h
  obtain ⟨e, he, h1, h2⟩ := h
  exact hno e (Array.mem_toList_iff.1 he) h1 h2

theorem wpAnyT_first {i : Nat} {oi : Oper} {v : Value} (hi : ops[i]? = some oi) (hsel : ∀ (j : Nat) (o : Oper) cs b, ops[j]? = some o → o.op ≠ .select cs b)
    (hQ : ∀ c a w, Q (.panic c) (a.put oi.dst v) w → Q (.panic c) a w) (hwz : waitsFor md ops z i = true) :
    ∀ (fuel : Nat) (listed : Array Bool) (a : Act) (w : World),
      (∀ j oj, ops[j]? = some oj → j ≠ i → listed.getD j true = false → (∀ e ∈ oj.after, Region.binds md e = true → e.on ≠ i) → oi.apart ops oj = true) →
      i ∈ Region.ready md ops listed → YieldsIf P ops S oi v a → S w →
      wpAnyT P md ops Q S z fuel (listed.setIfInBounds i true) (a.put oi.dst v) w → wpAnyT P md ops Q S z (fuel + 1) listed a w := by
  intro fuel
  induction fuel with
  | zero =>
    intro listed a w _ hr hy hS H
    refine ⟨fun h => (by rw [h] at hr; cases hr), fun j hj => ?_⟩
    by_cases hji : j = i
    · subst hji; exact hy.wpOp hi hS ⟨Or.inr hS, H⟩
    · have := ready_mono hj hji
      rw [H.1] at this
      cases this
  | succ fuel ih =>
    intro listed a w hfree hr hy hS H
    refine ⟨fun h => (by rw [h] at hr; cases hr), fun j hj => ?_⟩
    by_cases hji : j = i
    · subst hji; exact hy.wpOp hi hS ⟨Or.inr hS, H⟩
    · have h1 := H.2 j (ready_mono hj hji)
      obtain ⟨hjun, oj, hoj, hall⟩ := mem_ready.1 hj
      have hnot : ∀ e ∈ oj.after, Region.binds md e = true → e.on ≠ i := fun e he hb heq => by
        have h1 := hall e he hb
        have h0 := (mem_ready.1 hr).1
        rw [heq] at h1
        rcases Nat.lt_or_ge i listed.size with h' | h'
        · simp [h'] at h0 h1; rw [h0] at h1; cases h1
        · simp [Array.getElem?_eq_none h'] at h1
      have hjz : j ≠ z := fun e => by subst e; exact waitsFor_spec hwz oj hoj hnot
      have h2 := wpOp_putIf hoj (hfree j oj hoj hji hjun hnot) (fun cs b => hsel i oi cs b hi) (fun cs b => hsel j oj cs b hoj) hQ hy h1
      have hfree' : ∀ k ok, ops[k]? = some ok → k ≠ i → (listed.setIfInBounds j true).getD k true = false →
          (∀ e ∈ ok.after, Region.binds md e = true → e.on ≠ i) → oi.apart ops ok = true := fun k ok hk hki hun hno => by
        refine hfree k ok hk hki ?_ hno
        by_cases hjk : j = k
        · subst hjk; exact hjun
        · rw [getD_set_ne true hjk] at hun; exact hun
      refine wpOp_mono (fun a' w' h3 => ?_) h2
      have hS' : S w' := h3.2.1.resolve_left hjz
      refine ⟨Or.inr hS', ih (listed.setIfInBounds j true) a' w' hfree' (ready_mono hr (Ne.symm hji)) h3.1 hS' ?_⟩
      rw [Array.setIfInBounds_comm _ _ hji]
      exact h3.2.2

theorem wpAnyT_take {oi : Oper} {fuel : Nat} {listed : Array Bool} {a : Act} {w : World} (i : Nat) (d : Option Nat) (v : Value) (hi : ops[i]? = some oi) (hd : oi.dst = d)
    (hs : Region.noSelect ops = true) (hf : Region.free md ops listed i = true) (hr : (Region.ready md ops listed).contains i = true) (hwz : waitsFor md ops z i = true)
    (hQ : ∀ c a w, Q (.panic c) (a.put d v) w → Q (.panic c) a w) (hS : S w) (hy : YieldsIf P ops S oi v a)
    (h : wpAnyT P md ops Q S z fuel (listed.setIfInBounds i true) (a.put d v) w) : wpAnyT P md ops Q S z (fuel + 1) listed a w := by
  subst hd
  exact wpAnyT_first hi (Region.noSelect_spec hs) hQ hwz fuel listed a w (Region.free_spec hi hf) (by simpa using hr) hy hS h

theorem wanted_none {o : Oper} {ys : _} (hg : o.guard = none) : Region.wanted o ys = true := by simp [Region.wanted, hg]
/-- one alone may come up -/
theorem wpAnyT_only {i : Nat} {o : Oper} {fuel : Nat} {listed : Array Bool} {a : Act} {w : World} (hr : Region.ready md ops listed = [i]) (ho : ops[i]? = some o) (hg : o.guard = none)
    (h : o.wp P a w (fun a' w' => (i = z ∨ S w') ∧ wpAnyT P md ops Q S z fuel (listed.setIfInBounds i true) a' w') Q) : wpAnyT P md ops Q S z (fuel + 1) listed a w := by
  refine ⟨fun h0 => (by rw [hr] at h0; cases h0), fun k hk => ?_⟩
  rw [hr] at hk
  simp only [List.mem_cons, List.not_mem_nil, or_false] at hk
  subst hk
  unfold wpOp
  simp only [ho]
  rw [if_pos (wanted_none hg)]
  exact .inl h
/-- one of two -/
theorem wpAnyT_two {i j : Nat} {o p : Oper} {fuel : Nat} {listed : Array Bool} {a : Act} {w : World} (hr : Region.ready md ops listed = [i, j]) (ho : ops[i]? = some o) (hp : ops[j]? = some p) (hg : o.guard = none) (hgp : p.guard = none)
    (h1 : o.wp P a w (fun a' w' => (i = z ∨ S w') ∧ wpAnyT P md ops Q S z fuel (listed.setIfInBounds i true) a' w') Q)
    (h2 : p.wp P a w (fun a' w' => (j = z ∨ S w') ∧ wpAnyT P md ops Q S z fuel (listed.setIfInBounds j true) a' w') Q) : wpAnyT P md ops Q S z (fuel + 1) listed a w := by
  refine ⟨fun h0 => (by rw [hr] at h0; cases h0), fun k hk => ?_⟩
  rw [hr] at hk
  simp only [List.mem_cons, List.not_mem_nil, or_false] at hk
  rcases hk with rfl | rfl
  · unfold wpOp
    simp only [ho]
    rw [if_pos (wanted_none hg)]
    exact .inl h1
  · unfold wpOp
    simp only [hp]
    rw [if_pos (wanted_none hgp)]
    exact .inl h2
theorem wpAnyT_done {listed : Array Bool} {a : Act} {w : World} (hr : Region.ready md ops listed = []) (h : Q .normal a w) :
    ∀ fuel, wpAnyT P md ops Q S z fuel listed a w
  | 0 => ⟨hr, h⟩
  | _ + 1 => ⟨fun _ => h, by rw [hr]; simp⟩
/-- the beginning: the frame is made a letter -/
theorem wp_region_T {id : Nat} {a : Act} {w : World} (z n : Nat) (S : World → Prop) (hm : P.follows .mixedOrders = true) (hn : ops.size = n)
    (h : ∀ a' : Act, a' = a → wpAnyT P .any ops Q S z n (Array.replicate n false) a' w.drew) : (Code.region id ops true).wp P Q a w := by
  subst hn
  exact wp_region_any hm (wpAny_of_T _ _ _ _ (h a rfl))

theorem yi_run {o : Oper} {a : Act} {v : Value} (hg : o.guard = none) (h : ∀ w, S w → (execOp a.eval o).run P w = .ok (.value v) w) : YieldsIf P ops S o v a :=
  Or.inl ⟨wanted_none hg, h⟩
theorem yi_move {o : Oper} {a : Act} {v : Value} (hg : o.guard = none) (x : Operand) (ho : o.op = .move x) (hv : a.eval x = v) : YieldsIf P ops S o v a :=
  yi_run hg (fun w _ => by subst hv; simp [execOp, ho])
theorem wp_value {o : Oper} {a : Act} {w w' : World} {K : Act → World → Prop} (d : Option Nat) (v : Value) (hd : o.dst = d) (hrun : (execOp a.eval o).run P w = .ok (.value v) w') (h : K (a.put d v) w') : o.wp P a w K Q := by
  subst hd; unfold Oper.wp; rw [hrun]; exact h
theorem wp_append_at {o : Oper} {a : Act} {V : World} {K : Act → World → Prop} (d : Option Nat) (hd : o.dst = d) (s x : Operand) (t e : TypeId) (n : Nat)
    (ho : o.op = .call { callee := .builtin .append, args := #[s, x], argTypes := #[t, t] }) (ht : P.underlying t = some (.slice e)) (hi : (P.info? e).map (·.size) = some n)
    (g m cap b : Nat) (cs : Array Value) (hs : a.eval s = .slice (some ⟨g, 0, none⟩) m cap) (hx : a.eval x = .slice (some ⟨b, 0, none⟩) 1 1) (hl : cs.size = n) (h1 : cs.all (·.oneCell') = true)
    (hroom : m + 1 ≤ cap) (hr : V.rangeAt b 0 cs.toList) (hthere : V.there g 0 (cap * n)) (V' : World) (hV : V.setCells g (m * n) cs.toList = V')
    (hK : K (a.put d (.slice (some ⟨g, 0, none⟩) (m + 1) cap)) V') : o.wp P a V K Q := by
  obtain ⟨i, hq, hz⟩ := Option.map_eq_some_iff.1 hi
  subst hz
  have h4 : m * i.size + i.size ≤ cap * i.size := by rw [← Nat.succ_mul]; exact Nat.mul_le_mul_right _ hroom
  have hrun := run_append_room_cells (P := P) V t o.type e i ht hq g 0 m cap ⟨b, 0, none⟩ 1 1 cs.toList (by rw [Array.length_toList, hl, Nat.one_mul]) (fun j u hj => by rw [Addr.add_mid]; exact hr j u hj) (one_list h1) hroom
    (fun j hj => by
      rw [Array.length_toList, hl] at hj
      have := (hthere (m * i.size + j) (by omega)).1
      rw [← Nat.add_assoc] at this; exact this)
    (fun j hj => by
      rw [Array.length_toList, hl] at hj
      have := (hthere (m * i.size + j) (by omega)).2
      rw [← Nat.add_assoc] at this; exact this)
  rw [Nat.zero_add, hV] at hrun
  subst hd
  unfold Oper.wp
  simp [execOp, ho, resolve, invoke, builtin, hs, hx, hrun, Result.andThen]
  exact hK
theorem setCells_drew (g : Nat) : ∀ (vs : List Value) (o : Nat) (w : World), (w.drew).setCells g o vs = (w.setCells g o vs).drew
  | [], _, _ => rfl
  | v :: r, o, w => setCells_drew g r (o + 1) (w.setCell ⟨g, o, none⟩ v)
theorem wp_buildSlice_as {o : Oper} {a : Act} {w : World} {K : Act → World → Prop} (d : Option Nat) (hd : o.dst = d) (t e : TypeId) (parts : Array (Nat × Operand)) (ho : o.op = .buildSlice t 1 parts)
    (v : Value) (hvs : (parts.map fun (i, x) => (i, a.eval x)) = #[(0, v)]) (cells : Array Value) (hc : ∀ w : World, (Instr.buildSlice t 1 #[(0, v)]).run P w = .ok (.slice (some ⟨w.heap.size, 0, none⟩) 1 1) (w.alloc (.cells cells e)))
    (h : K (a.put d (.slice (some ⟨w.heap.size, 0, none⟩) 1 1)) (w.alloc (.cells cells e))) : o.wp P a w K Q := by
  subst hd
  unfold Oper.wp execOp
  simp only [ho, hvs, Sem.run_bind, hc, Result.andThen_ok]
  exact h
theorem wp_build_as {o : Oper} {a : Act} {w : World} {K : Act → World → Prop} (d : Option Nat) (hd : o.dst = d) (t : TypeId) (parts : Array (Nat × Operand)) (ho : o.op = .build t parts)
    (vs : Array (Nat × Value)) (hvs : (parts.map fun (i, x) => (i, a.eval x)) = vs) (cells : Array Value) (hc : ∀ w : World, (Instr.build t vs).run P w = .ok (.agg cells) w)
    (h : K (a.put d (.agg cells)) w) : o.wp P a w K Q := by
  subst hd
  unfold Oper.wp execOp
  simp only [ho, hvs, Sem.run_bind, hc, Result.andThen_ok]
  exact h
theorem yi_build_as {o : Oper} {a : Act} (hg : o.guard = none) (t : TypeId) (parts : Array (Nat × Operand)) (ho : o.op = .build t parts)
    (vs : Array (Nat × Value)) (hvs : (parts.map fun (i, x) => (i, a.eval x)) = vs) (cells : Array Value) (hc : ∀ w : World, (Instr.build t vs).run P w = .ok (.agg cells) w) : YieldsIf P ops S o (.agg cells) a :=
  yi_run hg (fun w _ => by
    unfold execOp
    simp only [ho, hvs, Sem.run_bind, hc, Result.andThen_ok]
    rfl)
theorem yi_load_row {o : Oper} {a : Act} (hg : o.guard = none) (ty : TypeId) (x : Operand) (ho : o.op = .load ty x) (b off : Nat) (hx : a.eval x = .pointer (some ⟨b, off, none⟩)) (C : Array Value) (dd : TypeDesc)
    (hS : ∀ w, S w → w.rangeAt b off C.toList) (hu : P.underlying ty = some dd) (hd : dd.isRow = true) (hi : (P.info? ty).map (·.size) = some C.size) : YieldsIf P ops S o (.agg C) a := by
  have := yieldsIf_load_mid (ops := ops) (S := S) (wanted_none hg) ty x ho b off hx C.toList dd hS hu hd (by rw [hi, Array.length_toList])
  simpa using this
theorem eval_same (a : Act) (i : Nat) (v : Value) (h : i < a.tmps.size) : (a.put (some i) v).eval (.tmp i) = v := by
  simp [Act.put, Act.eval, h]
theorem eval_ne (a : Act) (i j : Nat) (v : Value) (h : i ≠ j) : (a.put (some i) v).eval (.tmp j) = a.eval (.tmp j) := by
  simp [Act.put, Act.eval, Array.getElem?_setIfInBounds_ne h]
theorem put_size (a : Act) (d : Option Nat) (v : Value) : (a.put d v).tmps.size = a.tmps.size := by
  cases d <;> simp [Act.put]
end
theorem run_move {P : Program} {ρ : Operand → Value} {o : Oper} {x : Operand} {v : Value} {w : World} (ho : o.op = .move x) (hx : ρ x = v) : (execOp ρ o).run P w = .ok (.value v) w := by
  unfold execOp; simp only [ho, hx]; rfl
theorem run_nil {P : Program} {ρ : Operand → Value} {o : Oper} {x : Operand} {p : Addr} {w : World} (ho : o.op = .nilCheck x) (hx : ρ x = .pointer (some p)) : (execOp ρ o).run P w = .ok (.value (.pointer (some p))) w := by
  unfold execOp; simp only [ho, hx]; rfl
theorem run_field {P : Program} {ρ : Operand → Value} {o : Oper} {t : TypeId} {x : Operand} {f : Nat} {u r : Value} {w : World} (ho : o.op = .fieldAddr t x f) (hx : ρ x = u) (hr : (Instr.fieldAt t u f).run P w = .ok r w) : (execOp ρ o).run P w = .ok (.value r) w := by
  unfold execOp; simp only [ho, hx, Sem.run_bind, hr, Result.andThen_ok]; rfl
theorem run_load {P : Program} {ρ : Operand → Value} {o : Oper} {t : TypeId} {x : Operand} {u r : Value} {w : World} (ho : o.op = .load t x) (hx : ρ x = u) (hr : (Instr.loadAt t u).run P w = .ok r w) : (execOp ρ o).run P w = .ok (.value r) w := by
  unfold execOp; simp only [ho, hx, Sem.run_bind, hr, Result.andThen_ok]; rfl
theorem run_alloc {P : Program} {ρ : Operand → Value} {o : Oper} {t : TypeId} {r : Value} {w w' : World} (ho : o.op = .alloc t) (hr : (Instr.alloc t true (.tuple #[])).run P w = .ok r w') : (execOp ρ o).run P w = .ok (.value r) w' := by
  unfold execOp; simp only [ho, Sem.run_bind, hr, Result.andThen_ok]; rfl
theorem wp_store_as {P : Program} {Q : Exit → Act → World → Prop} {o : Oper} {a : Act} {w w' : World} {K : Act → World → Prop} (d : Option Nat) (hd : o.dst = d) (ty : TypeId) (x y : Operand) (ho : o.op = .store ty x y) (u v : Value) (hx : a.eval x = u) (hy : a.eval y = v) (hrun : (Instr.storeAt ty u v).run P w = .ok () w') (h : K (a.put d undef) w') : o.wp P a w K Q := by
  subst hd
  unfold Oper.wp execOp
  simp only [ho, hx, hy, Sem.run_bind, hrun, Result.andThen_ok]
  exact h
theorem wpAnyT_run {P : Program} {md : Region.Mode} {ops : Array Oper} {Q : Exit → Act → World → Prop} {S : World → Prop} {z fuel : Nat} {o : Oper} {listed : Array Bool} {a : Act} {w : World} (i : Nat) (d : Option Nat) (v : Value) (w' : World) (hr : Region.ready md ops listed = [i]) (ho : ops[i]? = some o) (hd : o.dst = d) (hg : o.guard = none)
    (hrun : (execOp a.eval o).run P w = .ok (.value v) w') (hz : i = z ∨ S w') (h : wpAnyT P md ops Q S z fuel (listed.setIfInBounds i true) (a.put d v) w') : wpAnyT P md ops Q S z (fuel + 1) listed a w :=
  wpAnyT_only hr ho hg (wp_value d v hd hrun ⟨hz, h⟩)
theorem wpAnyT_store {P : Program} {md : Region.Mode} {ops : Array Oper} {Q : Exit → Act → World → Prop} {S : World → Prop} {z fuel : Nat} {o : Oper} {listed : Array Bool} {a : Act} {w : World} (i : Nat) (ty : TypeId) (x y : Operand) (u v : Value) (w' : World) (hr : Region.ready md ops listed = [i]) (ho : ops[i]? = some o) (hd : o.dst = none) (hg : o.guard = none) (hop : o.op = .store ty x y)
    (hx : a.eval x = u) (hy : a.eval y = v) (hrun : (Instr.storeAt ty u v).run P w = .ok () w') (hz : i = z ∨ S w') (h : wpAnyT P md ops Q S z fuel (listed.setIfInBounds i true) a w') : wpAnyT P md ops Q S z (fuel + 1) listed a w :=
  wpAnyT_only hr ho hg (wp_store_as none hd ty x y hop u v hx hy hrun ⟨hz, h⟩)
theorem field48_3 (b o : Nat) (w : World) : (Instr.fieldAt 48 (.pointer (some ⟨b, o, none⟩)) 3).run Yba.prog w = .ok (.pointer (some ⟨b, o + 3, none⟩)) w := by
  go_simp
theorem field48_4 (b o : Nat) (w : World) : (Instr.fieldAt 48 (.pointer (some ⟨b, o, none⟩)) 4).run Yba.prog w = .ok (.pointer (some ⟨b, o + 4, none⟩)) w := by
  go_simp
theorem field43_0 (b o : Nat) (w : World) : (Instr.fieldAt 43 (.pointer (some ⟨b, o, none⟩)) 0).run Yba.prog w = .ok (.pointer (some ⟨b, o, none⟩)) w := by
  go_simp
theorem load41 (b o : Nat) (p : Option Addr) (m c : Nat) (w : World) (hc : w.cell? ⟨b, o, none⟩ = some (.slice p m c)) : (Instr.loadAt 41 (.pointer (some ⟨b, o, none⟩))).run Yba.prog w = .ok (.slice p m c) w := by
  go_simp
theorem load35 (b o : Nat) (p : Option Addr) (m c : Nat) (w : World) (hc : w.cell? ⟨b, o, none⟩ = some (.slice p m c)) : (Instr.loadAt 35 (.pointer (some ⟨b, o, none⟩))).run Yba.prog w = .ok (.slice p m c) w := by
  go_simp
theorem store41 (b o : Nat) (p : Option Addr) (m c : Nat) (w : World) (u : Value) (hc : w.cell? ⟨b, o, none⟩ = some u) (hf : w.frozen? ⟨b, o, none⟩ = false) : (Instr.storeAt 41 (.pointer (some ⟨b, o, none⟩)) (.slice p m c)).run Yba.prog w = .ok () (w.setCell ⟨b, o, none⟩ (.slice p m c)) := by
  go_simp
theorem store35 (b o : Nat) (p : Option Addr) (m c : Nat) (w : World) (u : Value) (hc : w.cell? ⟨b, o, none⟩ = some u) (hf : w.frozen? ⟨b, o, none⟩ = false) : (Instr.storeAt 35 (.pointer (some ⟨b, o, none⟩)) (.slice p m c)).run Yba.prog w = .ok () (w.setCell ⟨b, o, none⟩ (.slice p m c)) := by
  go_simp
theorem index41 (b len cap j : Nat) (h : j < len) (w : World) : (Instr.indexAt 41 (.slice (some ⟨b, 0, none⟩) len cap) (.int .i64 (j : Int))).run Yba.prog w = .ok (.pointer (some ⟨b, j * 8, none⟩)) w := by
  have h1 : (j : Int) < (len : Int) := by omega
  go_simp
theorem index35 (b len cap j : Nat) (h : j < len) (w : World) : (Instr.indexAt 35 (.slice (some ⟨b, 0, none⟩) len cap) (.int .i64 (j : Int))).run Yba.prog w = .ok (.pointer (some ⟨b, j * 32, none⟩)) w := by
  have h1 : (j : Int) < (len : Int) := by omega
  go_simp
theorem yi_index {ops : Array Oper} {S : World → Prop} {o : Oper} {a : Act} (hg : o.guard = none) (t : TypeId) (x y : Operand) (ho : o.op = .indexAddr t x y) (u v r : Value) (hx : a.eval x = u) (hy : a.eval y = v) (hr : ∀ w, (Instr.indexAt t u v).run Yba.prog w = .ok r w) : YieldsIf Yba.prog ops S o r a :=
  yi_run hg (fun w _ => by
    unfold execOp
    simp only [ho, hx, hy, Sem.run_bind, hr, Result.andThen_ok]
    rfl)
theorem wpList_store_as {ops : Array Oper} {rest : List Oper} {o : Oper} {a : Act} {w w' : World} {Q : Exit → Act → World → Prop} (hgd : o.guard = none) (ty : TypeId) (x y : Operand) (ho : o.op = .store ty x y) (u v : Value) (hx : a.eval x = u) (hy : a.eval y = v) (hrun : (Instr.storeAt ty u v).run Yba.prog w = .ok () w')
    (h : wpList Yba.prog ops Q rest (a.put o.dst undef) w') : wpList Yba.prog ops Q (o :: rest) a w :=
  wpList_plain hgd fun _ hK => wp_store_as o.dst rfl ty x y ho u v hx hy hrun (hK _ _ h)
theorem wpList_append_at {ops : Array Oper} {rest : List Oper} {o : Oper} {a : Act} {V : World} {Q : Exit → Act → World → Prop} (hgd : o.guard = none) (s x : Operand) (t e : TypeId) (n : Nat)
    (ho : o.op = .call { callee := .builtin .append, args := #[s, x], argTypes := #[t, t] }) (ht : Yba.prog.underlying t = some (.slice e)) (hi : (Yba.prog.info? e).map (·.size) = some n)
    (g m cap b : Nat) (cs : Array Value) (hs : a.eval s = .slice (some ⟨g, 0, none⟩) m cap) (hx : a.eval x = .slice (some ⟨b, 0, none⟩) 1 1) (hl : cs.size = n) (h1 : cs.all (·.oneCell') = true)
    (hroom : m + 1 ≤ cap) (hr : V.rangeAt b 0 cs.toList) (hthere : V.there g 0 (cap * n)) (V' : World) (hV : V.setCells g (m * n) cs.toList = V')
    (h : wpList Yba.prog ops Q rest (a.put o.dst (.slice (some ⟨g, 0, none⟩) (m + 1) cap)) V') : wpList Yba.prog ops Q (o :: rest) a V :=
  wpList_plain hgd fun _ hK => wp_append_at o.dst rfl s x t e n ho ht hi g m cap b cs hs hx hl h1 hroom hr hthere V' hV (hK _ _ h)
theorem store40 (b o : Nat) (p : Option Addr) (m c : Nat) (w : World) (u : Value) (hc : w.cell? ⟨b, o, none⟩ = some u) (hf : w.frozen? ⟨b, o, none⟩ = false) : (Instr.storeAt 40 (.pointer (some ⟨b, o, none⟩)) (.slice p m c)).run Yba.prog w = .ok () (w.setCell ⟨b, o, none⟩ (.slice p m c)) := by
  go_simp
theorem store22 (b o : Nat) (n : Int) (w : World) (u : Value) (hc : w.cell? ⟨b, o, none⟩ = some u) (hf : w.frozen? ⟨b, o, none⟩ = false) : (Instr.storeAt 22 (.pointer (some ⟨b, o, none⟩)) (.int .u64 n)).run Yba.prog w = .ok () (w.setCell ⟨b, o, none⟩ (.int .u64 n)) := by
  go_simp
theorem field48_6 (b o : Nat) (w : World) : (Instr.fieldAt 48 (.pointer (some ⟨b, o, none⟩)) 6).run Yba.prog w = .ok (.pointer (some ⟨b, o + 9, none⟩)) w := by
  go_simp
theorem index46 (b o j : Nat) (h : j < 40) (w : World) : (Instr.indexAt 46 (.pointer (some ⟨b, o, none⟩)) (.int .i64 (j : Int))).run Yba.prog w = .ok (.pointer (some ⟨b, o + j, none⟩)) w := by
  have h1 : (j : Int) < 40 := by omega
  go_simp
theorem index56 (b len cap j : Nat) (h : j < len) (w : World) : (Instr.indexAt 56 (.slice (some ⟨b, 0, none⟩) len cap) (.int .i64 (j : Int))).run Yba.prog w = .ok (.pointer (some ⟨b, j, none⟩)) w := by
  have h1 : (j : Int) < (len : Int) := by omega
  go_simp
theorem load3 (b o : Nat) (n : Int) (w : World) (hc : w.cell? ⟨b, o, none⟩ = some (.int .i64 n)) : (Instr.loadAt 3 (.pointer (some ⟨b, o, none⟩))).run Yba.prog w = .ok (.int .i64 n) w := by
  go_simp
theorem run_index {P : Program} {ρ : Operand → Value} {o : Oper} {t : TypeId} {x y : Operand} {u v r : Value} {w : World} (ho : o.op = .indexAddr t x y) (hx : ρ x = u) (hy : ρ y = v) (hr : (Instr.indexAt t u v).run P w = .ok r w) : (execOp ρ o).run P w = .ok (.value r) w := by
  unfold execOp; simp only [ho, hx, hy, Sem.run_bind, hr, Result.andThen_ok]; rfl
theorem run_call8 {ρ : Operand → Value} {o : Oper} {xs : Array Operand} {ts : Array TypeId} {vs : Array Value} {w : World} (hf : ρ (.func 8) = .func (.func 8) #[] #[]) (ho : o.op = .call { callee := .value (.func 8), args := xs, argTypes := ts }) (hvs : xs.map ρ = vs) : (execOp ρ o).run Yba.prog w = .ok (.enter 8 vs) w := by
  have h1 : ¬ (Yba.f8.name = "runtime.NumGoroutine") := by
    intro h
    have : (Yba.f8.name == "runtime.NumGoroutine") = false := by kernel_rfl
    rw [h] at this
    simp at this
  have h2 : ¬ (Yba.f8.body = none) := by
    intro h
    have : Yba.f8.body.isSome = true := by kernel_rfl
    rw [h] at this
    cases this
  simp [go_sem, execOp, ho, resolve, invoke, Deferred.ofValue, callFunc, hvs, hf, h1, h2]
theorem wp_call8 {Q : Exit → Act → World → Prop} {o : Oper} {a : Act} {w w1 : World} {K : Act → World → Prop} (d : Option Nat) (hd : o.dst = d) (xs : Array Operand) (ts : Array TypeId) (ho : o.op = .call { callee := .value (.func 8), args := xs, argTypes := ts }) (vs : Array Value) (hvs : xs.map a.eval = vs) (v : Value)
    (hC : Calls Yba.prog 8 vs w fun e w' => e = .returned v ∧ w' = w1) (h : K (a.put d v) w1) : o.wp Yba.prog a w K Q := by
  subst hd
  unfold Oper.wp
  rw [run_call8 rfl ho hvs]
  refine hC.mono ?_
  rintro e w' ⟨rfl, rfl⟩
  exact h
theorem wpAnyT_call8 {md : Region.Mode} {ops : Array Oper} {Q : Exit → Act → World → Prop} {S : World → Prop} {z fuel : Nat} {o : Oper} {listed : Array Bool} {a : Act} {w w1 : World} (i : Nat) (d : Option Nat) (xs : Array Operand) (ts : Array TypeId) (vs : Array Value) (v : Value) (hr : Region.ready md ops listed = [i]) (ho : ops[i]? = some o) (hd : o.dst = d) (hg : o.guard = none)
    (hop : o.op = .call { callee := .value (.func 8), args := xs, argTypes := ts }) (hvs : xs.map a.eval = vs) (hC : Calls Yba.prog 8 vs w fun e w' => e = .returned v ∧ w' = w1) (hz : i = z ∨ S w1) (h : wpAnyT Yba.prog md ops Q S z fuel (listed.setIfInBounds i true) (a.put d v) w1) : wpAnyT Yba.prog md ops Q S z (fuel + 1) listed a w :=
  wpAnyT_only hr ho hg (wp_call8 d hd xs ts hop vs hvs v hC ⟨hz, h⟩)
/-- a call of f8 and an alloc, whichever comes first -/
theorem wpAnyT_call_alloc {md : Region.Mode} {ops : Array Oper} {Q : Exit → Act → World → Prop} {S : World → Prop} {z fuel : Nat} {o p : Oper} {listed : Array Bool} {a : Act} {w w1 w2 : World} (i j : Nat) (d d2 : Option Nat) (xs : Array Operand) (ts : Array TypeId) (t : TypeId) (vs : Array Value) (v v2 : Value) (hr : Region.ready md ops listed = [i, j]) (ho : ops[i]? = some o) (hd : o.dst = d) (hg : o.guard = none)
    (hop : o.op = .call { callee := .value (.func 8), args := xs, argTypes := ts }) (hp : ops[j]? = some p) (hd2 : p.dst = d2) (hg2 : p.guard = none) (hop2 : p.op = .alloc t) (hvs : xs.map a.eval = vs) (hC : Calls Yba.prog 8 vs w fun e w' => e = .returned v ∧ w' = w1) (hal : (Instr.alloc t true (.tuple #[])).run Yba.prog w = .ok v2 w2) (hS1 : S w1) (hS2 : S w2)
    (h1 : wpAnyT Yba.prog md ops Q S z fuel (listed.setIfInBounds i true) (a.put d v) w1) (h2 : wpAnyT Yba.prog md ops Q S z fuel (listed.setIfInBounds j true) (a.put d2 v2) w2) : wpAnyT Yba.prog md ops Q S z (fuel + 1) listed a w :=
  wpAnyT_two hr ho hp hg hg2 (wp_call8 d hd xs ts hop vs hvs v hC ⟨Or.inr hS1, h1⟩) (wp_value d2 v2 hd2 (run_alloc hop2 hal) ⟨Or.inr hS2, h2⟩)
theorem wpAnyT_store_row {P : Program} {md : Region.Mode} {ops : Array Oper} {Q : Exit → Act → World → Prop} {S : World → Prop} {z fuel : Nat} {o : Oper} {listed : Array Bool} {a : Act} {w : World} (i : Nat) (ty : TypeId) (x y : Operand) (g : Nat) (cells old : Array Value) (t : TypeId) (hr : Region.ready md ops listed = [i]) (ho : ops[i]? = some o) (hd : o.dst = none) (hg : o.guard = none) (hop : o.op = .store ty x y)
    (hx : a.eval x = .pointer (some ⟨g, 0, none⟩)) (hy : a.eval y = .agg cells) (hgw : w.heap[g]? = some (.cells old t (0, 0))) (hi : (P.info? ty).map (·.size) = some cells.size) (hold : old.size = cells.size) (h1 : cells.all (·.oneCell') = true) (hz : i = z) (h : wpAnyT P md ops Q S z fuel (listed.setIfInBounds i true) a (w.setRow g cells)) : wpAnyT P md ops Q S z (fuel + 1) listed a w :=
  wpAnyT_only hr ho hg (wp_store_row ty x y hop g cells hx hy t old hgw hi hold h1 ⟨Or.inl hz, by rw [hd]; exact h⟩)
theorem field51_10 (b o : Nat) (w : World) : (Instr.fieldAt 51 (.pointer (some ⟨b, o, none⟩)) 10).run Yba.prog w = .ok (.pointer (some ⟨b, o + 41, none⟩)) w := by
  go_simp
theorem field64_1 (b o : Nat) (w : World) : (Instr.fieldAt 64 (.pointer (some ⟨b, o, none⟩)) 1).run Yba.prog w = .ok (.pointer (some ⟨b, o + 1, none⟩)) w := by
  go_simp
theorem field64_3 (b o : Nat) (w : World) : (Instr.fieldAt 64 (.pointer (some ⟨b, o, none⟩)) 3).run Yba.prog w = .ok (.pointer (some ⟨b, o + 3, none⟩)) w := by
  go_simp
theorem field64_4 (b o : Nat) (w : World) : (Instr.fieldAt 64 (.pointer (some ⟨b, o, none⟩)) 4).run Yba.prog w = .ok (.pointer (some ⟨b, o + 4, none⟩)) w := by
  go_simp
theorem field64_5 (b o : Nat) (w : World) : (Instr.fieldAt 64 (.pointer (some ⟨b, o, none⟩)) 5).run Yba.prog w = .ok (.pointer (some ⟨b, o + 5, none⟩)) w := by
  go_simp
theorem load38 (b o : Nat) (wl : Nat) (ex : Int) (w : World) (h0 : w.cell? ⟨b, o, none⟩ = some (.int .u64 (wl : Int))) (h1 : w.cell? ⟨b, o + 1, none⟩ = some (.int .i64 ex)) (h2 : w.cell? ⟨b, o + 2, none⟩ = some (.pointer none)) : (Instr.loadAt 38 (.pointer (some ⟨b, o, none⟩))).run Yba.prog w = .ok (timeV wl ex) w := by
  unfold timeV
  go_simp
theorem load61 (b o : Nat) (n : Int) (w : World) (hc : w.cell? ⟨b, o, none⟩ = some (.int .i64 n)) : (Instr.loadAt 61 (.pointer (some ⟨b, o, none⟩))).run Yba.prog w = .ok (.int .i64 n) w := by
  go_simp
end Go.Proofs.Ybulkegxe
