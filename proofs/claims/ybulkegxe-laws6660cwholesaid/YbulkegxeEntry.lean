/- LawS6660CWhole: Entry (f10). -/
import Derived.Test.YbulkegxeDrawn
import Derived.Defers
import Derived.Laws.ResultCell
namespace Go.Proofs.Ybulkegxe
open Go.RowKit
set_option linter.unusedVariables false
set_option linter.unusedSimpArgs false

theorem cmethod_lock (a : Addr) (w : World) : (method 225 65 (.pointer (some a)) "Lock").run Yba.prog w = .ok (52, .pointer (some a)) w := by kernel_rfl
theorem cmethod_unlock (a : Addr) (w : World) : (method 225 65 (.pointer (some a)) "Unlock").run Yba.prog w = .ok (53, .pointer (some a)) w := by kernel_rfl

set_option maxRecDepth 100000 in
set_option maxHeartbeats 800000 in
theorem clock_any (l : Nat) (n : Nat) (w : World) (hn : n ≤ 10) (h0 : w.cell? ⟨l, 0, none⟩ = some (.int .i64 (n : Int))) (f0 : w.frozen? ⟨l, 0, none⟩ = false) :
    Calls Yba.prog 52 #[.pointer (some ⟨l, 0, none⟩)] w fun e w' => e = .returned (.tuple #[]) ∧ w' = w.setCell ⟨l, 0, none⟩ (.int .i64 ((n : Int) + 1)) := by
  go_enter Yba.func52, Yba.ntmps52
  go_wp2
  go_end0
  exact ⟨rfl, rfl⟩
set_option maxRecDepth 100000 in
set_option maxHeartbeats 800000 in
theorem cunlock_deferred (l : Nat) (n : Nat) (w : World) (hn : n ≤ 10) (h0 : w.cell? ⟨l, 1, none⟩ = some (.int .i64 (n : Int))) (f0 : w.frozen? ⟨l, 1, none⟩ = false) (u : FrameMode) :
    CallsD Yba.prog 53 #[.pointer (some ⟨l, 0, none⟩)] u w fun e u' w' => u' = u ∧ (e = .returned (.tuple #[]) ∧ w' = w.setCell ⟨l, 1, none⟩ (.int .i64 ((n : Int) + 1))) := by
  go_enter_d Yba.func53, Yba.ntmps53
  go_wp2
  go_end0
  exact ⟨rfl, rfl⟩

/-- an entry's cells -/
def entC (k : List Nat) (w1 : Nat) (x1 : Int) (w2 : Nat) (x2 a b c : Int) : Array Value := kcells k ++ #[.int .u64 (w1 : Int), .int .i64 x1, .pointer none, .int .u64 (w2 : Int), .int .i64 x2, .pointer none, .int .i64 a, .int .i64 b, .int .i64 c]
theorem ent_built (k : List Nat) (hk : IsKey k) (w1 : Nat) (x1 a b c : Int) (w : World) :
    (Instr.build 72 #[(0, .agg (kcells k)), (1, timeV w1 x1), (3, .int .i64 a), (4, .int .i64 b), (5, .int .i64 c)]).run Yba.prog w = .ok (.agg (entC k w1 x1 0 0 a b c)) w := by
  obtain ⟨a0, a1, a2, a3, a4, a5, a6, a7, a8, a9, a10, a11, a12, a13, a14, a15, a16, a17, a18, a19, a20, a21, a22, a23, a24, a25, a26, a27, a28, a29, a30, a31, rfl⟩ := key_elems k hk
  kernel_rfl

def ent0 : Array Value := entC (List.replicate 32 0) 0 0 0 0 0 0 0
theorem entC_size (k : List Nat) (hk : IsKey k) (w1 : Nat) (x1 : Int) (w2 : Nat) (x2 a b c : Int) : (entC k w1 x1 w2 x2 a b c).size = 41 := by
  unfold entC; rw [Array.size_append, kcells_size, hk.len]; rfl
theorem ent0_size : ent0.size = 41 := by unfold ent0 entC; rw [Array.size_append, kcells_size]; rfl
theorem entC_one (k : List Nat) (w1 : Nat) (x1 : Int) (w2 : Nat) (x2 a b c : Int) : (entC k w1 x1 w2 x2 a b c).all (·.oneCell') = true := by
  unfold entC kcells
  rw [Array.all_append]
  simp only [Bool.and_eq_true]
  refine ⟨?_, by simp [Value.oneCell']⟩
  refine all_oneCell_toArray ?_
  intro v hv
  obtain ⟨z, _, rfl⟩ := List.mem_map.1 hv
  rfl
theorem Yba.size72 : (Yba.prog.info? 72).map (·.size) = some 41 := by kernel_rfl
theorem alloc72_run (w : World) : (Instr.alloc 72 true (.tuple #[])).run Yba.prog w = .ok (.pointer (some ⟨w.heap.size, 0, none⟩)) (w.alloc (.cells ent0 72)) := by kernel_rfl
theorem ent_zero (w : World) : (Instr.build 72 #[]).run Yba.prog w = .ok (.agg ent0) w := by kernel_rfl
theorem wpList_build_zero {w : World} {ops : Array Oper} {rest : List Oper} {o : Oper} {a : Act} {Q : Exit → Act → World → Prop} (hgd : o.guard = none) (ho : o.op = .build 72 #[])
    (h : wpList Yba.prog ops Q rest (a.put o.dst (.agg ent0)) w) : wpList Yba.prog ops Q (o :: rest) a w := by
  refine wpList_plain hgd fun K hK => ?_
  have hrun : (execOp a.eval o).run Yba.prog w = .ok (.value (.agg ent0)) w := by
    simp only [execOp, ho, List.map_toArray, List.map_nil]
    rw [Sem.run_bind, ent_zero]
    rfl
  unfold Oper.wp
  rw [hrun]
  exact hK _ _ h
theorem wpList_store_ent {ops : Array Oper} {rest : List Oper} {o : Oper} {a : Act} {w : World} {Q : Exit → Act → World → Prop} (hgd : o.guard = none) (x y : Operand) (ho : o.op = .store 72 x y)
    (g : Nat) (E old : Array Value) (hx : a.eval x = .pointer (some ⟨g, 0, none⟩)) (hy : a.eval y = .agg E) (hg : w.heap[g]? = some (.cells old 72 (0, 0))) (hE : E.size = 41) (ho2 : old.size = 41) (h1 : E.all (·.oneCell') = true)
    (h : wpList Yba.prog ops Q rest (a.put o.dst undef) (w.setRow g E)) : wpList Yba.prog ops Q (o :: rest) a w :=
  wpList_store_row hgd 72 x y ho g E hx hy 72 old hg (by rw [Yba.size72, hE]) (by rw [hE, ho2]) h1 h
theorem results_entry (tmps : Array Value) (w : World) (g : Nat) (E : Array Value) (b : Bool) (h4 : tmps.getD 4 undef = .pointer (some ⟨g, 0, none⟩)) (h5 : tmps.getD 5 undef = .bool b) (hg : w.heap[g]? = some (.cells E 72 (0, 0))) (hE : E.size = 41) :
    (results Yba.f10 tmps).run Yba.prog w = .ok (.tuple #[.agg E, .bool b]) w := by
  rw [results_cell_tmp (p := 4) (u := 5) (ty := 72) rfl, h4, h5]
  simp only [asAddr, Sem.run_pure, Result.andThen_ok]
  rw [run_loadVar_row w g 72 72 E (0, 0) _ hg Yba.underlying72 rfl (by rw [Yba.size72, hE])]
  rfl

/-- the table as Entry reads it -/
structure FullAt (w : World) (tb B O d c l wl : Nat) (ex : Int) (sf k : List Nat) (own : Bool) (kg kc hg hc rg rc : Nat) (ks : List (List Nat)) (rs : List Rec) : Prop where
  look : LookAt w tb B O d c sf
  c32 : w.cell? ⟨tb, 32, none⟩ = some (.iface 65 (.pointer (some ⟨l, 0, none⟩)))
  e0 : w.cell? ⟨tb, 41, none⟩ = some (.int .u64 (wl : Int))
  e1 : w.cell? ⟨tb, 42, none⟩ = some (.int .i64 ex)
  e2 : w.cell? ⟨tb, 43, none⟩ = some (.pointer none)
  bk : cplN sf k < d → BucketAt w B (O + cplN sf k * 49) own kg kc hg hc ks
  b3 : cplN sf k < d → w.cell? ⟨B, O + cplN sf k * 49 + 3, none⟩ = some (.slice (some ⟨rg, 0, none⟩) ks.length rc)
  recs : cplN sf k < d → ∀ i, i < ks.length → RecAt w rg (i * 8) (rs.getD i ⟨0, 0, 0, 0, 0, 0⟩)
  rglt : rg < w.heap.size
  len : rs.length = ks.length
theorem FullAt.below {w w' : World} {tb B O d c l wl N : Nat} {ex : Int} {sf k : List Nat} {own : Bool} {kg kc hg hc rg rc : Nat} {ks : List (List Nat)} {rs : List Rec} (h : FullAt w tb B O d c l wl ex sf k own kg kc hg hc rg rc ks rs) (hb : Below N w w') (hN : w.heap.size ≤ N) : FullAt w' tb B O d c l wl ex sf k own kg kc hg hc rg rc ks rs :=
  ⟨h.look.below hb hN, by rw [hb.cell (p := ⟨tb, 32, none⟩) (Nat.lt_of_lt_of_le h.look.lt hN)]; exact h.c32, by rw [hb.cell (p := ⟨tb, 41, none⟩) (Nat.lt_of_lt_of_le h.look.lt hN)]; exact h.e0, by rw [hb.cell (p := ⟨tb, 42, none⟩) (Nat.lt_of_lt_of_le h.look.lt hN)]; exact h.e1, by rw [hb.cell (p := ⟨tb, 43, none⟩) (Nat.lt_of_lt_of_le h.look.lt hN)]; exact h.e2,
    fun hd => (h.bk hd).below hb hN, fun hd => by rw [hb.cell (p := ⟨B, O + cplN sf k * 49 + 3, none⟩) (Nat.lt_of_lt_of_le (h.bk hd).lt hN)]; exact h.b3 hd, fun hd i hi => (h.recs hd i hi).below hb (Nat.lt_of_lt_of_le h.rglt hN), Nat.lt_of_lt_of_le h.rglt hb.size, h.len⟩

/-- what Entry answers -/
def entryR (ks : List (List Nat)) (rs : List Rec) (k : List Nat) (wl : Nat) (ex : Int) (r : Int) : Value :=
  if r = -1 then .tuple #[.agg (ent0), .bool false]
  else
    let q := rs.getD r.toNat ⟨0, 0, 0, 0, 0, 0⟩
    .tuple #[.agg (if q.answered = -9223372036854775808 then entC k (addN wl q.added) (addX ex (addC wl q.added)) 0 0 q.lookups q.closer q.failed
      else entC k (addN wl q.added) (addX ex (addC wl q.added)) (addN wl q.answered) (addX ex (addC wl q.answered)) q.lookups q.closer q.failed), .bool true]

/-- behind the lock -/
def Locked (w w2 : World) (l : Nat) (k : List Nat) : Prop :=
  (∀ g, g < w.heap.size → g ≠ l → w2.heap[g]? = w.heap[g]?) ∧ w2.heap.size = w.heap.size + 2 ∧ w2.cell? ⟨l, 0, none⟩ = some (.int .i64 1) ∧ w2.cell? ⟨l, 1, none⟩ = some (.int .i64 0) ∧ w2.frozen? ⟨l, 1, none⟩ = false ∧ w2.os = w.os ∧ w2.tape = w.tape ∧ w2.output = w.output ∧ KeyAt w2 w.heap.size 0 k ∧ w2.heap[w.heap.size + 1]? = some (.cells (ent0) 72 (0, 0))

theorem cell_set_off {w : World} {b o o' : Nat} {v : Value} (hne : o' ≠ o) : (w.setCell ⟨b, o, none⟩ v).cell? ⟨b, o', none⟩ = w.cell? ⟨b, o', none⟩ := by
  simp only [World.cell?, World.setCell, Array.getElem?_modify]
  cases hq : w.heap[b]? with
  | none => rfl
  | some ob =>
    cases ob with
    | cells cs t fr => simp [Ne.symm hne]
    | _ => rfl
theorem frozen_set {w : World} {a b : Addr} {v : Value} : (w.setCell a v).frozen? b = w.frozen? b := by
  simp only [World.frozen?, World.setCell, Array.getElem?_modify]
  by_cases e : a.block = b.block
  · rw [if_pos e]
    cases hq : w.heap[b.block]? with
    | none => rw [e] at *; simp [hq]
    | some ob =>
      cases ob <;> simp
  · rw [if_neg e]

/-- behind whatever else: the entry's room still empty -/
def Stay (w w2 : World) (l : Nat) (k : List Nat) : Prop :=
  (∀ g, g < w.heap.size → g ≠ l → w2.heap[g]? = w.heap[g]?) ∧ w.heap.size + 2 ≤ w2.heap.size ∧ w2.cell? ⟨l, 0, none⟩ = some (.int .i64 1) ∧ w2.cell? ⟨l, 1, none⟩ = some (.int .i64 0) ∧ w2.frozen? ⟨l, 1, none⟩ = false ∧ w2.os = w.os ∧ w2.tape = w.tape ∧ w2.output = w.output ∧ KeyAt w2 w.heap.size 0 k ∧ w2.heap[w.heap.size + 1]? = some (.cells ent0 72 (0, 0))

theorem locked_of (w w2 : World) (l : Nat) (k : List Nat) (l0 : w.cell? ⟨l, 0, none⟩ = some (.int .i64 0)) (l1 : w.cell? ⟨l, 1, none⟩ = some (.int .i64 0)) (f1 : w.frozen? ⟨l, 1, none⟩ = false)
    (h : w2 = ((w.alloc (.cells (kcells k) 29)).alloc (.cells (ent0) 72)).setCell ⟨l, 0, none⟩ (.int .i64 (((0 : Nat) : Int) + 1))) : Locked w w2 l k := by
  have hl := World.block_lt_of_cell? w ⟨l, 0, none⟩ l0
  have hl' : l < w.heap.size := hl
  have hw1 : ∀ g, g < w.heap.size → ((w.alloc (.cells (kcells k) 29)).alloc (.cells (ent0) 72)).heap[g]? = w.heap[g]? := by
    intro g hg
    rw [Below.heap_alloc _ _ _ (by simp; omega), Below.heap_alloc _ _ _ hg]
  have hkk : KeyAt ((w.alloc (.cells (kcells k) 29)).alloc (.cells (ent0) 72)) w.heap.size 0 k :=
    (KeyAt.new w k 29).below ((Below.refl (w.heap.size + 1) _).alloc (by simp) _) (by omega)
  have hrow : ((w.alloc (.cells (kcells k) 29)).alloc (.cells (ent0) 72)).heap[w.heap.size + 1]? = some (.cells (ent0) 72 (0, 0)) := by
    have := heap_alloc_new (w.alloc (.cells (kcells k) 29)) (.cells (ent0) 72)
    simpa using this
  have hsz : ((w.alloc (.cells (kcells k) 29)).alloc (.cells (ent0) 72)).heap.size = w.heap.size + 2 := by simp
  obtain ⟨W, hW⟩ : ∃ W, W = ((w.alloc (.cells (kcells k) 29)).alloc (.cells (ent0) 72)) := ⟨_, rfl⟩
  have hos : W.os = w.os ∧ W.tape = w.tape ∧ W.output = w.output := by rw [hW]; exact ⟨rfl, rfl, rfl⟩
  rw [← hW] at h hw1 hkk hrow hsz
  have hc0 : W.cell? ⟨l, 0, none⟩ = some (.int .i64 0) := (World.cell?_of_block (w := w) (hw1 l hl')).trans l0
  have hc1 : W.cell? ⟨l, 1, none⟩ = some (.int .i64 0) := (World.cell?_of_block (w := w) (hw1 l hl')).trans l1
  have hf1 : W.frozen? ⟨l, 1, none⟩ = false := (World.frozen?_of_block (w := w) (hw1 l hl')).trans f1
  subst h
  refine ⟨fun g hg hne => ?_, ?_, ?_, ?_, ?_, hos.1, hos.2.1, hos.2.2, ?_, ?_⟩
  · rw [Below.heap_setCell _ _ _ _ hne]; exact hw1 g hg
  · simp [World.setCell, hsz]
  · exact cell_set hc0
  · exact (cell_set_off (by decide)).trans hc1
  · rw [frozen_set]; exact hf1
  · intro j v hj
    rw [World.cell?_of_block (Below.heap_setCell _ _ _ _ (by simp; omega))]
    exact hkk j v hj
  · rw [Below.heap_setCell _ _ _ _ (by simp; omega)]; exact hrow

theorem ent_set (k : List Nat) (hk : IsKey k) (n1 : Nat) (x1 : Int) (n2 : Nat) (x2 a b c : Int) : (((entC k n1 x1 0 0 a b c).setIfInBounds 35 (.int .u64 (n2 : Int))).setIfInBounds 36 (.int .i64 x2)).setIfInBounds 37 (.pointer none) = entC k n1 x1 n2 x2 a b c := by
  obtain ⟨a0, a1, a2, a3, a4, a5, a6, a7, a8, a9, a10, a11, a12, a13, a14, a15, a16, a17, a18, a19, a20, a21, a22, a23, a24, a25, a26, a27, a28, a29, a30, a31, rfl⟩ := key_elems k hk
  kernel_rfl
theorem row_set {w : World} {g : Nat} {c : Array Value} {t : TypeId} (h : w.heap[g]? = some (.cells c t (0, 0))) (j : Nat) (v : Value) : (w.setCell ⟨g, j, none⟩ v).heap[g]? = some (.cells (c.setIfInBounds j v) t (0, 0)) := by
  simp [World.setCell, Array.getElem?_modify, h]

theorem entry_end {Post : Ending → World → Prop} (tmps : Array Value) (W : World) (l g : Nat) (E : Array Value) (b : Bool) (h4 : tmps.getD 4 undef = .pointer (some ⟨g, 0, none⟩)) (h5 : tmps.getD 5 undef = .bool b) (hg : W.heap[g]? = some (.cells E 72 (0, 0))) (hE : E.size = 41) (hgl : g ≠ l)
    (l1 : W.cell? ⟨l, 1, none⟩ = some (.int .i64 0)) (f1 : W.frozen? ⟨l, 1, none⟩ = false) (hp : Post (.returned (.tuple #[.agg E, .bool b])) (W.setCell ⟨l, 1, none⟩ (.int .i64 1))) :
    bodyPostD Yba.prog Yba.f10 Post Exit.ret { tmps := tmps, defers := [{ target := Target.fn (Fn.method "Unlock") #[], args := #[.iface 65 (.pointer (some ⟨l, 0, none⟩))] }] } W := by
  have hm2 := cmethod_unlock ⟨l, 0, none⟩
  have h2 := cunlock_deferred l 0 W (by omega) l1 f1 .returning
  refine leaves_cons (f := 53) (args := #[.pointer (some ⟨l, 0, none⟩)]) (by simp) (by simp [go_sem, hm2]) ?_
  refine h2.mono ?_
  rintro e u' w2 ⟨rfl, rfl, rfl⟩
  refine ⟨_, results_entry tmps _ g E b h4 h5 ?_ hE, ?_⟩
  · rw [Below.heap_setCell _ _ _ _ hgl]; exact hg
  · exact hp

/-- the worlds that the call may end in -/
def Left (w w' : World) (l : Nat) : Prop :=
  w'.cell? ⟨l, 0, none⟩ = some (.int .i64 1) ∧ w'.cell? ⟨l, 1, none⟩ = some (.int .i64 1) ∧ (∀ g, g < w.heap.size → g ≠ l → w'.heap[g]? = w.heap[g]?) ∧ w.heap.size ≤ w'.heap.size ∧ w'.os = w.os ∧ w'.tape = w.tape ∧ w'.output = w.output
theorem left_of {w W : World} {l : Nat} {k : List Nat} (h1 : ∀ g, g < w.heap.size → g ≠ l → W.heap[g]? = w.heap[g]?) (h2 : w.heap.size ≤ W.heap.size) (h3 : W.cell? ⟨l, 0, none⟩ = some (.int .i64 1)) (h4 : W.cell? ⟨l, 1, none⟩ = some (.int .i64 0)) (h5 : W.os = w.os ∧ W.tape = w.tape ∧ W.output = w.output) : Left w (W.setCell ⟨l, 1, none⟩ (.int .i64 1)) l :=
  ⟨(cell_set_off (by decide)).trans h3, cell_set h4, fun g hg hne => by rw [Below.heap_setCell _ _ _ _ hne]; exact h1 g hg hne, by simp [World.setCell]; exact h2, h5.1, h5.2.1, h5.2.2⟩

set_option maxRecDepth 100000 in
set_option maxHeartbeats 60000000 in
theorem entry_any (tb B O d c l wl : Nat) (ex : Int) (sf k : List Nat) (own : Bool) (kg kc hg hc rg rc : Nat) (ks : List (List Nat)) (rs : List Rec) (hs : IsKey sf) (hk : IsKey k) (w : World)
    (hF : ∀ w', (∀ g, g < w.heap.size → g ≠ l → w'.heap[g]? = w.heap[g]?) → w.heap.size ≤ w'.heap.size → FullAt w' tb B O d c l wl ex sf k own kg kc hg hc rg rc ks rs)
    (l0 : w.cell? ⟨l, 0, none⟩ = some (.int .i64 0)) (l1 : w.cell? ⟨l, 1, none⟩ = some (.int .i64 0)) (f0 : w.frozen? ⟨l, 0, none⟩ = false) (f1 : w.frozen? ⟨l, 1, none⟩ = false) (hwl : wl < 1000000000)
    (hrs : ∀ i, i < rs.length → -9223372036854775808 ≤ (rs.getD i ⟨0, 0, 0, 0, 0, 0⟩).added ∧ (rs.getD i ⟨0, 0, 0, 0, 0, 0⟩).added ≤ 9223372036854775807 ∧ -9223372036854775808 ≤ (rs.getD i ⟨0, 0, 0, 0, 0, 0⟩).answered ∧ (rs.getD i ⟨0, 0, 0, 0, 0, 0⟩).answered ≤ 9223372036854775807) :
    Calls Yba.prog 10 #[.pointer (some ⟨tb, 0, none⟩), keyV k] w fun e w' => ∃ r : Int, e = .returned (entryR ks rs k wl ex r) ∧ ((d ≤ cplN sf k ∧ r = -1) ∨ (cplN sf k < d ∧ FirstAt ks k r)) ∧ Left w w' l := by
  have hm1 := cmethod_lock ⟨l, 0, none⟩
  have hm2 := cmethod_unlock ⟨l, 0, none⟩
  have hF0 := hF w (fun _ _ _ => rfl) (Nat.le_refl _)
  have c32 := hF0.c32
  have htb := hF0.look.lt
  unfold keyV
  go_enter_defers Yba.func10, Yba.ntmps10
  go_wp2_with fail
  have hl := World.block_lt_of_cell? w ⟨l, 0, none⟩ l0
  refine (clock_any l 0 _ (by omega) ((World.cell?_of_block (w := w) (by rw [Below.heap_alloc _ _ _ (by simp; exact Nat.lt_succ_of_lt hl), Below.heap_alloc _ _ _ hl])).trans l0) ((World.frozen?_of_block (w := w) (by rw [Below.heap_alloc _ _ _ (by simp; exact Nat.lt_succ_of_lt hl), Below.heap_alloc _ _ _ hl])).trans f0)).mono ?_
  rintro e w2 ⟨rfl, hw2⟩
  have HL : Hid (Locked w w2 l k) := locked_of w w2 l k l0 l1 f1 hw2
  clear hw2 hm1 c32
  have hF2 := hF w2 HL.out.1 (by have := HL.out.2.1; omega)
  have d32 := hF2.c32
  have hloc := locate_any tb B O d c sf k own kg kc hg hc ks hs hk w2 hF2.look hF2.bk
  have HK : Hid (IsKey sf ∧ IsKey k) := ⟨hs, hk⟩
  have HF2 : Hid (FullAt w2 tb B O d c l wl ex sf k own kg kc hg hc rg rc ks rs) := hF2
  have HFF : Hid (∀ w', (∀ g, g < w.heap.size → g ≠ l → w'.heap[g]? = w.heap[g]?) → w.heap.size ≤ w'.heap.size → FullAt w' tb B O d c l wl ex sf k own kg kc hg hc rg rc ks rs) := hF
  have HRS : Hid (∀ i, i < rs.length → -9223372036854775808 ≤ (rs.getD i ⟨0, 0, 0, 0, 0, 0⟩).added ∧ (rs.getD i ⟨0, 0, 0, 0, 0, 0⟩).added ≤ 9223372036854775807 ∧ -9223372036854775808 ≤ (rs.getD i ⟨0, 0, 0, 0, 0, 0⟩).answered ∧ (rs.getD i ⟨0, 0, 0, 0, 0, 0⟩).answered ≤ 9223372036854775807) := hrs
  clear hF hF0 hF2 hs hk hrs l0 l1 f0 f1
  unfold keyV at hloc
  go_upto_region 4 with (first | (refine wpList_load_key rfl _ rfl w.heap.size 0 rfl k HL.out.2.2.2.2.2.2.2.2.1 HK.out.2 ?_) | (go_at_call 15; refine hloc.mono ?_; rintro e w3 ⟨r, rfl, hr, hb3⟩))
  have HS3 : Hid (Stay w w3 l k) := by
    obtain ⟨q1, q2, q3, q4, q5, q6, q7, q8, q9, q10⟩ := HL.out
    have hb : ∀ g, g < w.heap.size + 2 → w3.heap[g]? = w2.heap[g]? := fun g hg => hb3.block g (by omega)
    exact ⟨fun g h1 h2 => (hb g (by omega)).trans (q1 g h1 h2), by have := hb3.size; omega, (World.cell?_of_block (hb l (by omega))).trans q3, (World.cell?_of_block (hb l (by omega))).trans q4, (World.frozen?_of_block (hb l (by omega))).trans q5, hb3.os.trans q6, hb3.tape.trans q7, hb3.output.trans q8, q9.below hb3 (by omega), (hb _ (by omega)).trans q10⟩
  have HF3 : Hid (FullAt w3 tb B O d c l wl ex sf k own kg kc hg hc rg rc ks rs) := HFF.out w3 HS3.out.1 (by have := HS3.out.2.1; omega)
  have HR : Hid ((d ≤ cplN sf k ∧ r = -1) ∨ (cplN sf k < d ∧ FirstAt ks k r)) := hr
  clear hloc hb3 HL HF2 HFF d32 hr
  by_cases hneg : r = -1
  · subst hneg
    go_wp2_with (first | (refine wpList_build_zero rfl rfl ?_) | (refine wpList_store_ent rfl _ _ rfl (w.heap.size + 1) ent0 ent0 rfl rfl HS3.out.2.2.2.2.2.2.2.2.2 ent0_size ent0_size (entC_one _ _ _ _ _ _ _ _) ?_))
    rw [setRow_self _ _ _ _ _ HS3.out.2.2.2.2.2.2.2.2.2]
    obtain ⟨q1, q2, q3, q4, q5, q6, q7, q8, q9, q10⟩ := HS3.out
    refine entry_end _ w3 l (w.heap.size + 1) ent0 false rfl rfl q10 ent0_size (by omega) q4 q5 ?_
    exact ⟨-1, by rw [entryR, if_pos rfl], HR.out.elim (fun h => Or.inl ⟨h.1, rfl⟩) (fun h => Or.inr h), left_of (k := k) q1 (by omega) q3 q4 ⟨q6, q7, q8⟩⟩
  · obtain ⟨i, hi, rfl, hd⟩ : ∃ i : Nat, i < ks.length ∧ r = (i : Int) ∧ (cplN sf k < d ∧ FirstAt ks k r) := by
      rcases HR.out with ⟨_, h⟩ | ⟨h, hf⟩
      · exact absurd h hneg
      · rcases hf with ⟨i, h1, h2, h3⟩ | ⟨h1, _⟩
        · exact ⟨i, h1, h2, h, Or.inl ⟨i, h1, h2, h3⟩⟩
        · exact absurd h1 hneg
    have HI : Hid (cplN sf k < d ∧ FirstAt ks k (i : Int)) := hd
    have hb0 := hd.1
    have hmany := (HF3.out.bk hd.1).many
    have c34 := HF3.out.look.c34
    have hd257 := HF3.out.look.d2
    have cb3 := HF3.out.b3 hd.1
    obtain ⟨q, hq⟩ : ∃ q, q = rs.getD i ⟨0, 0, 0, 0, 0, 0⟩ := ⟨_, rfl⟩
    have hrec := HF3.out.recs hd.1 i hi
    rw [← hq] at hrec
    have t0 := hrec 0 _ rfl
    have t1 := hrec 1 _ rfl
    have t2 := hrec 2 _ rfl
    have t3 := hrec 3 _ rfl
    have t4 := hrec 4 _ rfl
    have t5 := hrec 5 _ rfl
    have t6 := hrec 6 _ rfl
    have t7 := hrec 7 _ rfl
    rw [Nat.add_zero] at t0
    have HB0 : Hid (i < ks.length ∧ q = rs.getD i ⟨0, 0, 0, 0, 0, 0⟩) := ⟨hi, hq⟩
    clear hneg HR hd hrec hq
    generalize hcp : cplN sf k = b0 at *
    have HCP : Hid (cplN sf k = b0) := hcp
    clear hcp
    go_upto_region 7 with fail
    obtain ⟨w4, hw4⟩ : ∃ w4, w4 = w3.alloc (.cells (recC q) 64) := ⟨_, rfl⟩
    have hw4' : w3.alloc (.cells #[.int .u64 (q.id : Int), .int .i64 q.added, .int .i64 q.answered, .int .i64 q.lookups, .int .i64 q.closer, .int .i64 q.failed, .int .u32 0, .int .u32 0] 64) = w4 := hw4.symm
    rw [hw4']
    have HW4 : Hid (w4 = w3.alloc (.cells (recC q) 64)) := hw4
    clear t0 t1 t2 t3 t4 t5 t6 t7 c34 cb3 hw4 hw4'
    go_cut [9] from 40 to 54 (fun p wx => ∃ g9, p = .pointer (some ⟨g9, 0, none⟩) ∧ w4.heap.size ≤ g9 ∧ Below w4.heap.size w4 wx ∧ wx.heap[g9]? = some (.cells (entC k (addN wl q.added) (addX ex (addC wl q.added)) 0 0 q.lookups q.closer q.failed) 72 (0, 0)))
    case first => as_aux_lemma =>
--[R
      have hw4 := HW4.out
      have h34 : Below w3.heap.size w3 w4 := by rw [hw4]; exact (Below.refl _ _).alloc (Nat.le_refl _) _
      have hs4 : w4.heap.size = w3.heap.size + 1 := by rw [hw4]; simp
      have hr4 : RecAt w4 w3.heap.size 0 q := by rw [hw4]; exact range_new _ _ _
      have hqb := HRS.out i (by rw [HF3.out.len]; exact HB0.out.1)
      rw [← HB0.out.2] at hqb
      have hadd := add_exact wl ex q.added hwl hqb.1 hqb.2.1
      have HFx : Hid (∀ W, Below w4.heap.size w4 W → FullAt W tb B O d c l wl ex sf k own kg kc hg hc rg rc ks rs) := fun W hb => (HF3.out.below h34 (Nat.le_refl _)).below hb (Nat.le_refl _)
      have HRx : Hid (∀ W, Below w4.heap.size w4 W → RecAt W w3.heap.size 0 q) := fun W hb => hr4.below hb (by omega)
      have HKx : Hid (∀ W, Below w4.heap.size w4 W → KeyAt W w.heap.size 0 k) := fun W hb => (HS3.out.2.2.2.2.2.2.2.2.1.below h34 (by have := HS3.out.2.1; omega)).below hb (by have := HS3.out.2.1; omega)
      have hks : (kcells k).size = 32 := by rw [kcells_size, HK.out.2.len]
      have HKK := hide HK.out.2
      clear hw4 h34 hs4 hr4 hqb HW4 HRS
      refine wp_region_noPanic ?_
      refine wp_region_T 16 17 (fun W => Below w4.heap.size w4 W) (by kernel_rfl) (by kernel_rfl) ?_
      intro a ha
      have e0 : a.eval (.tmp 0) = .pointer (some ⟨tb, 0, none⟩) := by rw [ha]; rfl
      have e3 : a.eval (.tmp 3) = .pointer (some ⟨w.heap.size, 0, none⟩) := by rw [ha]; rfl
      have e8 : a.eval (.tmp 8) = .pointer (some ⟨w3.heap.size, 0, none⟩) := by rw [ha]; rfl
      have hsz : a.tmps.size = 67 := by rw [ha]; rfl
      have hS : Below w4.heap.size w4 w4.drew := (Below.refl _ _).drew
      refine wpAnyT_take 0 (some 40) (.agg (kcells k)) rfl rfl (by kernel_rfl) (by kernel_rfl) (by kernel_rfl) (by kernel_rfl) (fun _ _ _ h => h) hS (yi_load_row rfl 29 _ rfl w.heap.size 0 (by simp [eval_same, eval_ne, put_size, hsz, e0, e3, e8]) (kcells k) _ (fun W hW => HKx.out W hW) Yba.underlying29 rfl (by rw [Yba.size29, hks])) ?_
      refine wpAnyT_take 1 (some 41) (.pointer (some ⟨tb, 0, none⟩)) rfl rfl (by kernel_rfl) (by kernel_rfl) (by kernel_rfl) (by kernel_rfl) (fun _ _ _ h => h) hS (yi_run rfl (fun W hW => run_move rfl (by simp [eval_same, eval_ne, put_size, hsz, e0, e3, e8]))) ?_
      refine wpAnyT_take 2 (some 42) (.pointer (some ⟨tb, 0, none⟩)) rfl rfl (by kernel_rfl) (by kernel_rfl) (by kernel_rfl) (by kernel_rfl) (fun _ _ _ h => h) hS (yi_run rfl (fun W hW => run_nil rfl (by simp [eval_same, eval_ne, put_size, hsz, e0, e3, e8]))) ?_
      refine wpAnyT_take 3 (some 43) (.pointer (some ⟨tb, 0 + 41, none⟩)) rfl rfl (by kernel_rfl) (by kernel_rfl) (by kernel_rfl) (by kernel_rfl) (fun _ _ _ h => h) hS (yi_run rfl (fun W hW => run_field rfl (by simp [eval_same, eval_ne, put_size, hsz, e0, e3, e8]) (field51_10 _ _ W))) ?_
      refine wpAnyT_take 4 (some 44) (timeV wl ex) rfl rfl (by kernel_rfl) (by kernel_rfl) (by kernel_rfl) (by kernel_rfl) (fun _ _ _ h => h) hS (yi_run rfl (fun W hW => run_load rfl (by simp [eval_same, eval_ne, put_size, hsz, e0, e3, e8]) (load38 tb (0 + 41) wl ex W (HFx.out W hW).e0 (HFx.out W hW).e1 (HFx.out W hW).e2))) ?_
      refine wpAnyT_take 5 (some 45) (.pointer (some ⟨w3.heap.size, 0 + 1, none⟩)) rfl rfl (by kernel_rfl) (by kernel_rfl) (by kernel_rfl) (by kernel_rfl) (fun _ _ _ h => h) hS (yi_run rfl (fun W hW => run_field rfl (by simp [eval_same, eval_ne, put_size, hsz, e0, e3, e8]) (field64_1 _ _ W))) ?_
      refine wpAnyT_take 6 (some 46) (.int .i64 q.added) rfl rfl (by kernel_rfl) (by kernel_rfl) (by kernel_rfl) (by kernel_rfl) (fun _ _ _ h => h) hS (yi_run rfl (fun W hW => run_load rfl (by simp [eval_same, eval_ne, put_size, hsz, e0, e3, e8]) (load61 _ _ _ W ((HRx.out W hW) 1 _ rfl)))) ?_
      refine wpAnyT_take 8 (some 48) (.pointer (some ⟨w3.heap.size, 0 + 3, none⟩)) rfl rfl (by kernel_rfl) (by kernel_rfl) (by kernel_rfl) (by kernel_rfl) (fun _ _ _ h => h) hS (yi_run rfl (fun W hW => run_field rfl (by simp [eval_same, eval_ne, put_size, hsz, e0, e3, e8]) (field64_3 _ _ W))) ?_
      refine wpAnyT_take 9 (some 49) (.int .i64 q.lookups) rfl rfl (by kernel_rfl) (by kernel_rfl) (by kernel_rfl) (by kernel_rfl) (fun _ _ _ h => h) hS (yi_run rfl (fun W hW => run_load rfl (by simp [eval_same, eval_ne, put_size, hsz, e0, e3, e8]) (load3 _ _ _ W ((HRx.out W hW) 3 _ rfl)))) ?_
      refine wpAnyT_take 10 (some 50) (.pointer (some ⟨w3.heap.size, 0 + 4, none⟩)) rfl rfl (by kernel_rfl) (by kernel_rfl) (by kernel_rfl) (by kernel_rfl) (fun _ _ _ h => h) hS (yi_run rfl (fun W hW => run_field rfl (by simp [eval_same, eval_ne, put_size, hsz, e0, e3, e8]) (field64_4 _ _ W))) ?_
      refine wpAnyT_take 11 (some 51) (.int .i64 q.closer) rfl rfl (by kernel_rfl) (by kernel_rfl) (by kernel_rfl) (by kernel_rfl) (fun _ _ _ h => h) hS (yi_run rfl (fun W hW => run_load rfl (by simp [eval_same, eval_ne, put_size, hsz, e0, e3, e8]) (load3 _ _ _ W ((HRx.out W hW) 4 _ rfl)))) ?_
      refine wpAnyT_take 12 (some 52) (.pointer (some ⟨w3.heap.size, 0 + 5, none⟩)) rfl rfl (by kernel_rfl) (by kernel_rfl) (by kernel_rfl) (by kernel_rfl) (fun _ _ _ h => h) hS (yi_run rfl (fun W hW => run_field rfl (by simp [eval_same, eval_ne, put_size, hsz, e0, e3, e8]) (field64_5 _ _ W))) ?_
      refine wpAnyT_take 13 (some 53) (.int .i64 q.failed) rfl rfl (by kernel_rfl) (by kernel_rfl) (by kernel_rfl) (by kernel_rfl) (fun _ _ _ h => h) hS (yi_run rfl (fun W hW => run_load rfl (by simp [eval_same, eval_ne, put_size, hsz, e0, e3, e8]) (load3 _ _ _ W ((HRx.out W hW) 5 _ rfl)))) ?_
      refine wpAnyT_call_alloc 7 15 (some 47) (some 9) _ _ 72 #[timeV wl ex, .int .i64 q.added] (timeV (addN wl q.added) (addX ex (addC wl q.added))) (.pointer (some ⟨w4.drew.heap.size, 0, none⟩)) (by kernel_rfl) rfl rfl rfl rfl rfl rfl rfl rfl (by simp [eval_same, eval_ne, put_size, hsz, e0, e3, e8]) (hadd _) (alloc72_run _) ((hS.alloc (Nat.le_refl _) _).alloc (by simp) _) (hS.alloc (Nat.le_refl _) _) ?_ ?_
      · have hb1 : Below w4.heap.size w4 ((w4.drew.alloc (.cells #[.int .u64 (addN wl q.added : Int), .int .i64 (addX ex (addC wl q.added)), .pointer none] 38)).alloc (.cells #[.int .u64 (addN wl q.added : Int), .int .i64 (addX ex (addC wl q.added)), .pointer none] 38)) := (hS.alloc (Nat.le_refl _) _).alloc (by simp) _
        obtain ⟨X, hX⟩ : ∃ x, x = ((w4.drew.alloc (.cells #[.int .u64 (addN wl q.added : Int), .int .i64 (addX ex (addC wl q.added)), .pointer none] 38)).alloc (.cells #[.int .u64 (addN wl q.added : Int), .int .i64 (addX ex (addC wl q.added)), .pointer none] 38)) := ⟨_, rfl⟩
        rw [← hX] at hb1 ⊢
        have hxs : w4.heap.size + 2 = X.heap.size := by rw [hX]; simp
        clear hX
        refine wpAnyT_take 14 (some 54) (.agg (entC k (addN wl q.added) (addX ex (addC wl q.added)) 0 0 q.lookups q.closer q.failed)) rfl rfl (by kernel_rfl) (by kernel_rfl) (by kernel_rfl) (by kernel_rfl) (fun _ _ _ h => h) hb1 (yi_build_as rfl 72 _ rfl #[(0, .agg (kcells k)), (1, timeV (addN wl q.added) (addX ex (addC wl q.added))), (3, .int .i64 q.lookups), (4, .int .i64 q.closer), (5, .int .i64 q.failed)] (by simp [eval_same, eval_ne, put_size, hsz, e0, e3, e8]) (entC k (addN wl q.added) (addX ex (addC wl q.added)) 0 0 q.lookups q.closer q.failed) (ent_built k HKK.out _ _ _ _ _)) ?_
        refine wpAnyT_run 15 (some 9) (.pointer (some ⟨X.heap.size, 0, none⟩)) (X.alloc (.cells ent0 72)) (by kernel_rfl) rfl rfl rfl (run_alloc rfl (alloc72_run _)) (Or.inr (hb1.alloc (by omega) _)) ?_
        refine wpAnyT_store_row 16 72 _ _ X.heap.size (entC k (addN wl q.added) (addX ex (addC wl q.added)) 0 0 q.lookups q.closer q.failed) ent0 72 (by kernel_rfl) rfl rfl rfl rfl (by simp [eval_same, eval_ne, put_size, hsz, e0, e3, e8]) (by simp [eval_same, eval_ne, put_size, hsz, e0, e3, e8]) (heap_alloc_new _ _) (by rw [Yba.size72, entC_size k HKK.out]) (by rw [ent0_size, entC_size k HKK.out]) (entC_one _ _ _ _ _ _ _ _) rfl ?_
        refine wpAnyT_done (by kernel_rfl) ?_ _
        have HP : Hid (Below w4.heap.size w4 ((X.alloc (.cells ent0 72)).setRow X.heap.size (entC k (addN wl q.added) (addX ex (addC wl q.added)) 0 0 q.lookups q.closer q.failed)) ∧ ((X.alloc (.cells ent0 72)).setRow X.heap.size (entC k (addN wl q.added) (addX ex (addC wl q.added)) 0 0 q.lookups q.closer q.failed)).heap[X.heap.size]? = some (.cells (entC k (addN wl q.added) (addX ex (addC wl q.added)) 0 0 q.lookups q.closer q.failed) 72 (0, 0))) := by
          have hb : Below w4.heap.size w4 (X.alloc (.cells ent0 72)) := hb1.alloc (by omega) _
          refine And.intro ⟨hb.os, hb.tape, hb.output, by rw [setRow_size]; exact hb.size, fun kk hkk => (setRow_other _ _ _ _ (by omega)).trans (hb.block kk hkk)⟩ (setRow_heap _ _ _ _ _ _ (heap_alloc_new _ _))
        rw [ha]
        refine NoPanic.normal ?_
        simp only [Act.put, List.setIfInBounds_toArray, List.set_cons_zero, List.set_cons_succ]
        go_wp2
        go_meet
        case rel => exact ⟨X.heap.size, rfl, by omega, HP.out.1, HP.out.2⟩
      · have hb1 : Below w4.heap.size w4 (((w4.drew.alloc (.cells ent0 72)).alloc (.cells #[.int .u64 (addN wl q.added : Int), .int .i64 (addX ex (addC wl q.added)), .pointer none] 38)).alloc (.cells #[.int .u64 (addN wl q.added : Int), .int .i64 (addX ex (addC wl q.added)), .pointer none] 38)) := ((hS.alloc (Nat.le_refl _) _).alloc (by simp) _).alloc (by simp; omega) _
        refine wpAnyT_call8 7 (some 47) _ _ #[timeV wl ex, .int .i64 q.added] (timeV (addN wl q.added) (addX ex (addC wl q.added))) (by kernel_rfl) rfl rfl rfl rfl (by simp [eval_same, eval_ne, put_size, hsz, e0, e3, e8]) (hadd _) (Or.inr hb1) ?_
        have hrow : (((w4.drew.alloc (.cells ent0 72)).alloc (.cells #[.int .u64 (addN wl q.added : Int), .int .i64 (addX ex (addC wl q.added)), .pointer none] 38)).alloc (.cells #[.int .u64 (addN wl q.added : Int), .int .i64 (addX ex (addC wl q.added)), .pointer none] 38)).heap[w4.heap.size]? = some (.cells ent0 72 (0, 0)) := by
          rw [Below.heap_alloc _ _ _ (by simp; omega), Below.heap_alloc _ _ _ (by simp)]
          exact heap_alloc_new _ _
        obtain ⟨X, hX⟩ : ∃ x, x = ((w4.drew.alloc (.cells ent0 72)).alloc (.cells #[.int .u64 (addN wl q.added : Int), .int .i64 (addX ex (addC wl q.added)), .pointer none] 38)).alloc (.cells #[.int .u64 (addN wl q.added : Int), .int .i64 (addX ex (addC wl q.added)), .pointer none] 38) := ⟨_, rfl⟩
        rw [← hX] at hb1 hrow ⊢
        clear hX
        refine wpAnyT_take 14 (some 54) (.agg (entC k (addN wl q.added) (addX ex (addC wl q.added)) 0 0 q.lookups q.closer q.failed)) rfl rfl (by kernel_rfl) (by kernel_rfl) (by kernel_rfl) (by kernel_rfl) (fun _ _ _ h => h) hb1 (yi_build_as rfl 72 _ rfl #[(0, .agg (kcells k)), (1, timeV (addN wl q.added) (addX ex (addC wl q.added))), (3, .int .i64 q.lookups), (4, .int .i64 q.closer), (5, .int .i64 q.failed)] (by simp [eval_same, eval_ne, put_size, hsz, e0, e3, e8]) (entC k (addN wl q.added) (addX ex (addC wl q.added)) 0 0 q.lookups q.closer q.failed) (ent_built k HKK.out _ _ _ _ _)) ?_
        refine wpAnyT_store_row 16 72 _ _ w4.heap.size (entC k (addN wl q.added) (addX ex (addC wl q.added)) 0 0 q.lookups q.closer q.failed) ent0 72 (by kernel_rfl) rfl rfl rfl rfl (by simp [eval_same, eval_ne, put_size, hsz, e0, e3, e8]) (by simp [eval_same, eval_ne, put_size, hsz, e0, e3, e8]) hrow (by rw [Yba.size72, entC_size k HKK.out]) (by rw [ent0_size, entC_size k HKK.out]) (entC_one _ _ _ _ _ _ _ _) rfl ?_
        refine wpAnyT_done (by kernel_rfl) ?_ _
        have HP : Hid (Below w4.heap.size w4 (X.setRow w4.heap.size (entC k (addN wl q.added) (addX ex (addC wl q.added)) 0 0 q.lookups q.closer q.failed)) ∧ (X.setRow w4.heap.size (entC k (addN wl q.added) (addX ex (addC wl q.added)) 0 0 q.lookups q.closer q.failed)).heap[w4.heap.size]? = some (.cells (entC k (addN wl q.added) (addX ex (addC wl q.added)) 0 0 q.lookups q.closer q.failed) 72 (0, 0))) := by
          have hb : Below w4.heap.size w4 X := hb1
          refine And.intro ⟨hb.os, hb.tape, hb.output, by rw [setRow_size]; exact hb.size, fun kk hkk => (setRow_other _ _ _ _ (by omega)).trans (hb.block kk hkk)⟩ (setRow_heap _ _ _ _ _ _ hrow)
        rw [ha]
        refine NoPanic.normal ?_
        simp only [Act.put, List.setIfInBounds_toArray, List.set_cons_zero, List.set_cons_succ]
        go_wp2
        go_meet
        case rel => exact ⟨w4.heap.size, rfl, by omega, HP.out.1, HP.out.2⟩
--R]
    case rest => as_aux_lemma =>
      obtain ⟨g9, rfl, hg9, hb9, hrow9⟩ := hcut
      have h34 : Below w3.heap.size w3 w4 := by rw [HW4.out]; exact (Below.refl _ _).alloc (Nat.le_refl _) _
      have hs4 : w4.heap.size = w3.heap.size + 1 := by rw [HW4.out]; simp
      have hrr : ∀ w', Below w4.heap.size w4 w' → ∀ j v, (recC q)[j]? = some v → w'.cell? ⟨w3.heap.size, j, none⟩ = some v := by
        intro w' hb j v hj
        rw [hb.cell (p := ⟨w3.heap.size, j, none⟩) (by rw [hs4]; exact Nat.lt_succ_self _), HW4.out]
        simp only [World.cell?, heap_alloc_new]; exact hj
      have r2 : wc.cell? ⟨w3.heap.size, 2, none⟩ = some (.int .i64 q.answered) := hrr wc hb9 2 _ rfl
      have HRR := hide hrr
      have H9 : Hid (w4.heap.size ≤ g9 ∧ Below w4.heap.size w4 wc ∧ wc.heap[g9]? = some (.cells (entC k (addN wl q.added) (addX ex (addC wl q.added)) 0 0 q.lookups q.closer q.failed) 72 (0, 0)) ∧ Below w3.heap.size w3 w4 ∧ w4.heap.size = w3.heap.size + 1) := ⟨hg9, hb9, hrow9, h34, hs4⟩
      clear hg9 hb9 hrow9 h34 hs4 hrr
      have HST : Hid (∀ W, Below w4.heap.size w4 W → Stay w W l k) := by
        intro W hb
        have hbb : Below w3.heap.size w3 W := H9.out.2.2.2.1.trans (hb.mono (by have := H9.out.2.2.2.2; omega))
        obtain ⟨q1, q2, q3, q4, q5, q6, q7, q8, q9, q10⟩ := HS3.out
        exact ⟨fun g h1 h2 => (hbb.block g (by omega)).trans (q1 g h1 h2), by have := hbb.size; omega, (World.cell?_of_block (hbb.block l (by omega))).trans q3, (World.cell?_of_block (hbb.block l (by omega))).trans q4, (World.frozen?_of_block (hbb.block l (by omega))).trans q5, hbb.os.trans q6, hbb.tape.trans q7, hbb.output.trans q8, q9.below hbb (by omega), (hbb.block _ (by omega)).trans q10⟩
      by_cases hna : q.answered = -9223372036854775808
      · have HNA := hide hna
        go_wp2_with (first | (refine wpList_load_row rfl 72 _ rfl g9 rfl 72 _ (0, 0) _ H9.out.2.2.1 Yba.underlying72 rfl (by rw [entC_size k HK.out.2]; exact Yba.size72) ?_) | (refine wpList_store_ent rfl _ _ rfl (w.heap.size + 1) _ ent0 rfl rfl (HST.out _ H9.out.2.1).2.2.2.2.2.2.2.2.2 (entC_size k HK.out.2 _ _ _ _ _ _ _) ent0_size (entC_one _ _ _ _ _ _ _ _) ?_))
        obtain ⟨q1, q2, q3, q4, q5, q6, q7, q8, q9, q10⟩ := HST.out _ H9.out.2.1
        have hle : l ≠ w.heap.size + 1 := by omega
        refine entry_end _ _ l (w.heap.size + 1) (entC k (addN wl q.added) (addX ex (addC wl q.added)) 0 0 q.lookups q.closer q.failed) true rfl rfl (setRow_heap _ _ _ _ _ _ q10) (entC_size k HK.out.2 _ _ _ _ _ _ _) (by omega) ((World.cell?_of_block (setRow_other _ _ _ _ hle)).trans q4) ((World.frozen?_of_block (setRow_other _ _ _ _ hle)).trans q5) ?_
        refine ⟨(i : Int), ?_, Or.inr ?_, left_of (k := k) (fun g h1 h2 => (setRow_other _ _ _ _ (by omega)).trans (q1 g h1 h2)) (by rw [setRow_size]; omega) ((World.cell?_of_block (setRow_other _ _ _ _ hle)).trans q3) ((World.cell?_of_block (setRow_other _ _ _ _ hle)).trans q4) ⟨q6, q7, q8⟩⟩
        · rw [entryR, if_neg (by omega)]
          simp only [Int.toNat_natCast, ← HB0.out.2, if_pos HNA.out]
        · rw [HCP.out]; exact HI.out
      · have HNA := hide hna
        have e0 := (HF3.out.below H9.out.2.2.2.1 (Nat.le_refl _)).below H9.out.2.1 (Nat.le_refl _) |>.e0
        have e1 := (HF3.out.below H9.out.2.2.2.1 (Nat.le_refl _)).below H9.out.2.1 (Nat.le_refl _) |>.e1
        have e2 := (HF3.out.below H9.out.2.2.2.1 (Nat.le_refl _)).below H9.out.2.1 (Nat.le_refl _) |>.e2
        have hadd := add_exact wl ex q.answered hwl (by have := HRS.out i (by rw [HF3.out.len]; exact HB0.out.1); rw [← HB0.out.2] at this; omega) (by have := HRS.out i (by rw [HF3.out.len]; exact HB0.out.1); rw [← HB0.out.2] at this; omega)
        unfold timeV at hadd
        have hna2 : (q.answered == -9223372036854775808) = false := by simpa using hna
        obtain ⟨E, hE⟩ : ∃ E, E = entC k (addN wl q.added) (addX ex (addC wl q.added)) 0 0 q.lookups q.closer q.failed := ⟨_, rfl⟩
        have hEs : E.size = 41 := by rw [hE]; exact entC_size k HK.out.2 _ _ _ _ _ _ _
        have hrw := H9.out.2.2.1
        rw [← hE] at hrw
        have x35 : wc.cell? ⟨g9, 35, none⟩ = some E[35] := by simp only [World.cell?, hrw]; exact Array.getElem?_eq_getElem _
        have x36 : wc.cell? ⟨g9, 36, none⟩ = some E[36] := by simp only [World.cell?, hrw]; exact Array.getElem?_eq_getElem _
        have x37 : wc.cell? ⟨g9, 37, none⟩ = some E[37] := by simp only [World.cell?, hrw]; exact Array.getElem?_eq_getElem _
        have y35 : wc.frozen? ⟨g9, 35, none⟩ = false := by simp only [World.frozen?, hrw]; simp
        have y36 : wc.frozen? ⟨g9, 36, none⟩ = false := by simp only [World.frozen?, hrw]; simp
        have y37 : wc.frozen? ⟨g9, 37, none⟩ = false := by simp only [World.frozen?, hrw]; simp
        have htg : tb < w4.heap.size := by have := HF3.out.look.lt; have := H9.out.2.2.2.2; omega
        have hgl := (Array.getElem?_eq_some_iff.1 hrw).1
        have HRW := hide hrw
        have HE := hide hE
        generalize E[35] = v35 at *
        generalize E[36] = v36 at *
        generalize E[37] = v37 at *
        clear hrw hE hna
        have hn1 : ¬ g9 = tb := by have := H9.out.1; omega
        have hn2 : ¬ g9 = w3.heap.size := by have := H9.out.1; have := H9.out.2.2.2.2; omega
        have hn3 : ¬ tb = g9 := fun h => hn1 h.symm
        have hn4 : ¬ w3.heap.size = g9 := fun h => hn2 h.symm
        have HSx : Hid (∀ w', Below w4.heap.size w4 w' → w'.cell? ⟨tb, 41, none⟩ = some (.int .u64 (wl : Int)) ∧ w'.cell? ⟨tb, 42, none⟩ = some (.int .i64 ex) ∧ w'.cell? ⟨tb, 43, none⟩ = some (.pointer none) ∧ w'.cell? ⟨w3.heap.size, 2, none⟩ = some (.int .i64 q.answered)) := by
          intro w' hb
          have hf := (HF3.out.below H9.out.2.2.2.1 (Nat.le_refl _)).below hb (Nat.le_refl _)
          exact ⟨hf.e0, hf.e1, hf.e2, HRR.out w' hb 2 _ rfl⟩
        have hg9' := H9.out.1
        have hwcs := H9.out.2.1.size
        go_upto_region 9 with fail
        go_region_held3 (fun w' => w'.cell? ⟨tb, 41, none⟩ = some (.int .u64 (wl : Int)) ∧ w'.cell? ⟨tb, 42, none⟩ = some (.int .i64 ex) ∧ w'.cell? ⟨tb, 43, none⟩ = some (.pointer none) ∧ w'.cell? ⟨w3.heap.size, 2, none⟩ = some (.int .i64 q.answered)) ((refine HSx.out _ ?_; repeat (first | exact H9.out.2.1 | apply Below.drew | refine Below.alloc ?_ (by first | omega | (simp [World.setCell]; omega) | simp [World.setCell]) _ | refine Below.setCell ?_ (by first | omega | exact hg9' | (simp; omega)) _))) ((go_at_call 8; refine (hadd _).mono ?_; rintro e w5 ⟨rfl, rfl⟩))
        obtain ⟨w6, hw6⟩ : ∃ w6, w6 = (((((wc.setCell ⟨g9, 35, none⟩ (.int .u64 (addN wl q.answered : Int))).setCell ⟨g9, 36, none⟩ (.int .i64 (addX ex (addC wl q.answered)))).setCell ⟨g9, 37, none⟩ (.pointer none)).alloc (.cells #[.int .u64 (addN wl q.answered : Int), .int .i64 (addX ex (addC wl q.answered)), .pointer none] 38)).alloc (.cells #[.int .u64 (addN wl q.answered : Int), .int .i64 (addX ex (addC wl q.answered)), .pointer none] 38)).drew := ⟨_, rfl⟩
        rw [← hw6]
        have hb6 : Below w4.heap.size w4 w6 := by
          rw [hw6]
          exact (((((H9.out.2.1.setCell (by exact hg9') _).setCell (by exact hg9') _).setCell (by exact hg9') _).alloc (by simp [World.setCell]; omega) _).alloc (by simp [World.setCell]; omega) _).drew
        have hr6 : w6.heap[g9]? = some (.cells (entC k (addN wl q.added) (addX ex (addC wl q.added)) (addN wl q.answered) (addX ex (addC wl q.answered)) q.lookups q.closer q.failed) 72 (0, 0)) := by
          rw [hw6, ← ent_set k HK.out.2, ← HE.out]
          have h0 := row_set (row_set (row_set HRW.out 35 (.int .u64 (addN wl q.answered : Int))) 36 (.int .i64 (addX ex (addC wl q.answered)))) 37 (.pointer none)
          have hl0 := (Array.getElem?_eq_some_iff.1 h0).1
          refine (Below.heap_alloc _ _ _ ?_).trans ((Below.heap_alloc _ _ _ hl0).trans h0)
          simp at hl0 ⊢; omega
        have H6 : Hid (Below w4.heap.size w4 w6 ∧ w6.heap[g9]? = some (.cells (entC k (addN wl q.added) (addX ex (addC wl q.added)) (addN wl q.answered) (addX ex (addC wl q.answered)) q.lookups q.closer q.failed) 72 (0, 0))) := ⟨hb6, hr6⟩
        clear hw6 hb6 hr6 x35 x36 x37 y35 y36 y37 e0 e1 e2 r2
        go_wp2_with (first | (refine wpList_load_row rfl 72 _ rfl g9 rfl 72 _ (0, 0) _ H6.out.2 Yba.underlying72 rfl (by rw [entC_size k HK.out.2]; exact Yba.size72) ?_) | (refine wpList_store_ent rfl _ _ rfl (w.heap.size + 1) _ ent0 rfl rfl (HST.out _ H6.out.1).2.2.2.2.2.2.2.2.2 (entC_size k HK.out.2 _ _ _ _ _ _ _) ent0_size (entC_one _ _ _ _ _ _ _ _) ?_))
        obtain ⟨q1, q2, q3, q4, q5, q6, q7, q8, q9, q10⟩ := HST.out _ H6.out.1
        have hle : l ≠ w.heap.size + 1 := by omega
        refine entry_end _ _ l (w.heap.size + 1) (entC k (addN wl q.added) (addX ex (addC wl q.added)) (addN wl q.answered) (addX ex (addC wl q.answered)) q.lookups q.closer q.failed) true rfl rfl (setRow_heap _ _ _ _ _ _ q10) (entC_size k HK.out.2 _ _ _ _ _ _ _) (by omega) ((World.cell?_of_block (setRow_other _ _ _ _ hle)).trans q4) ((World.frozen?_of_block (setRow_other _ _ _ _ hle)).trans q5) ?_
        refine ⟨(i : Int), ?_, Or.inr ?_, left_of (k := k) (fun g h1 h2 => (setRow_other _ _ _ _ (by omega)).trans (q1 g h1 h2)) (by rw [setRow_size]; omega) ((World.cell?_of_block (setRow_other _ _ _ _ hle)).trans q3) ((World.cell?_of_block (setRow_other _ _ _ _ hle)).trans q4) ⟨q6, q7, q8⟩⟩
        · rw [entryR, if_neg (by omega)]
          simp only [Int.toNat_natCast, ← HB0.out.2, if_neg HNA.out]
        · rw [HCP.out]; exact HI.out
end Go.Proofs.Ybulkegxe
