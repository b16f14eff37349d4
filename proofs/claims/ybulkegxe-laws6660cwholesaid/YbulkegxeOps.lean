/- LawS6660CWhole: the laws of single operations (literals, appends) and what loop 1's appending arm keeps. -/
import Derived.Test.YbulkegxeStart
import Derived.Laws.Tables
namespace Go.Proofs.Ybulkegxe
open Go.RowKit Go.Lib
set_option linter.unusedVariables false

theorem wpList_build_as {ops : Array Oper} {rest : List Oper} {o : Oper} {a : Act} {w : World} {Q : Exit → Act → World → Prop} (hgd : o.guard = none) (t : TypeId) (parts : Array (Nat × Operand)) (ho : o.op = .build t parts)
    (vs : Array (Nat × Value)) (hvs : (parts.map fun (i, x) => (i, a.eval x)) = vs) (cells : Array Value) (hc : ∀ w : World, (Instr.build t vs).run Yba.prog w = .ok (.agg cells) w)
    (h : wpList Yba.prog ops Q rest (a.put o.dst (.agg cells)) w) : wpList Yba.prog ops Q (o :: rest) a w := by
  refine wpList_plain hgd fun K hK => ?_
  unfold Oper.wp execOp
  simp only [ho, hvs, Sem.run_bind, hc, Result.andThen_ok]
  exact hK _ _ h
theorem wpList_buildSlice_as {ops : Array Oper} {rest : List Oper} {o : Oper} {a : Act} {w : World} {Q : Exit → Act → World → Prop} (hgd : o.guard = none) (t e : TypeId) (parts : Array (Nat × Operand)) (ho : o.op = .buildSlice t 1 parts)
    (v : Value) (hvs : (parts.map fun (i, x) => (i, a.eval x)) = #[(0, v)]) (cells : Array Value) (hc : ∀ w : World, (Instr.buildSlice t 1 #[(0, v)]).run Yba.prog w = .ok (.slice (some ⟨w.heap.size, 0, none⟩) 1 1) (w.alloc (.cells cells e)))
    (h : wpList Yba.prog ops Q rest (a.put o.dst (.slice (some ⟨w.heap.size, 0, none⟩) 1 1)) (w.alloc (.cells cells e))) : wpList Yba.prog ops Q (o :: rest) a w := by
  refine wpList_plain hgd fun K hK => ?_
  unfold Oper.wp execOp
  simp only [ho, hvs, Sem.run_bind, hc, Result.andThen_ok]
  exact hK _ _ h

theorem key_elems (k : List Nat) (hk : IsKey k) : ∃ a0 a1 a2 a3 a4 a5 a6 a7 a8 a9 a10 a11 a12 a13 a14 a15 a16 a17 a18 a19 a20 a21 a22 a23 a24 a25 a26 a27 a28 a29 a30 a31 : Nat, k = [a0, a1, a2, a3, a4, a5, a6, a7, a8, a9, a10, a11, a12, a13, a14, a15, a16, a17, a18, a19, a20, a21, a22, a23, a24, a25, a26, a27, a28, a29, a30, a31] := by
  match k, hk.len with
  | [a0, a1, a2, a3, a4, a5, a6, a7, a8, a9, a10, a11, a12, a13, a14, a15, a16, a17, a18, a19, a20, a21, a22, a23, a24, a25, a26, a27, a28, a29, a30, a31], _ => exact ⟨a0, a1, a2, a3, a4, a5, a6, a7, a8, a9, a10, a11, a12, a13, a14, a15, a16, a17, a18, a19, a20, a21, a22, a23, a24, a25, a26, a27, a28, a29, a30, a31, rfl⟩

theorem rec_built (v a b c d e : Int) (w : World) : (Instr.build 64 #[(0, .int .u64 v), (1, .int .i64 a), (2, .int .i64 b), (3, .int .i64 c), (4, .int .i64 d), (5, .int .i64 e)]).run Yba.prog w = .ok (.agg #[.int .u64 v, .int .i64 a, .int .i64 b, .int .i64 c, .int .i64 d, .int .i64 e, .int .u32 0, .int .u32 0]) w := by kernel_rfl
theorem lit35 (k : List Nat) (hk : IsKey k) (w : World) : (Instr.buildSlice 35 1 #[(0, .agg (kcells k))]).run Yba.prog w = .ok (.slice (some ⟨w.heap.size, 0, none⟩) 1 1) (w.alloc (.cells (kcells k) 29)) := by
  obtain ⟨a0, a1, a2, a3, a4, a5, a6, a7, a8, a9, a10, a11, a12, a13, a14, a15, a16, a17, a18, a19, a20, a21, a22, a23, a24, a25, a26, a27, a28, a29, a30, a31, rfl⟩ := key_elems k hk
  kernel_rfl
theorem lit56 (v : Int) (w : World) : (Instr.buildSlice 56 1 #[(0, .int .i64 v)]).run Yba.prog w = .ok (.slice (some ⟨w.heap.size, 0, none⟩) 1 1) (w.alloc (.cells #[.int .i64 v] 3)) := by kernel_rfl
theorem lit40 (v : Int) (w : World) : (Instr.buildSlice 40 1 #[(0, .int .u64 v)]).run Yba.prog w = .ok (.slice (some ⟨w.heap.size, 0, none⟩) 1 1) (w.alloc (.cells #[.int .u64 v] 22)) := by kernel_rfl
theorem lit41 (r : Rec) (w : World) : (Instr.buildSlice 41 1 #[(0, .agg (recC r))]).run Yba.prog w = .ok (.slice (some ⟨w.heap.size, 0, none⟩) 1 1) (w.alloc (.cells (recC r) 64)) := by kernel_rfl
theorem Yba.size64 : (Yba.prog.info? 64).map (·.size) = some 8 := by kernel_rfl
theorem Yba.size3 : (Yba.prog.info? 3).map (·.size) = some 1 := by kernel_rfl
theorem Yba.size22 : (Yba.prog.info? 22).map (·.size) = some 1 := by kernel_rfl
theorem recC_one (r : Rec) : (recC r).all (·.oneCell') = true := by unfold recC; simp [Value.oneCell']
theorem wpList_load_rec {ops : Array Oper} {rest : List Oper} {o : Oper} {a : Act} {w : World} {Q : Exit → Act → World → Prop} (hgd : o.guard = none) (x : Operand) (ho : o.op = .load 64 x)
    (g off : Nat) (hx : a.eval x = .pointer (some ⟨g, off, none⟩)) (r : Rec) (hK : RecAt w g off r)
    (h : wpList Yba.prog ops Q rest (a.put o.dst (.agg (recC r))) w) : wpList Yba.prog ops Q (o :: rest) a w := by
  refine wpList_load_mid hgd 64 x ho g off hx (recC r).toList _ hK Yba.underlying64 rfl (by rw [Yba.size64]; rfl) ?_
  simpa using h

theorem range_new (W : World) (c : Array Value) (t : TypeId) : (W.alloc (.cells c t)).rangeAt W.heap.size 0 c.toList := by
  intro j v hj
  rw [Nat.zero_add]
  simp only [World.cell?, heap_alloc_new]
  simpa using hj
theorem one_list {c : Array Value} (h : c.all (·.oneCell') = true) : ∀ u ∈ c.toList, u.oneCell' = true := by
  intro u hu
  rw [Array.all_eq_true_iff_forall_mem] at h
  exact h u (Array.mem_toList_iff.1 hu)

/-- append of a literal of one element, where there is room -/
theorem wpList_append_new {ops : Array Oper} {rest : List Oper} {o : Oper} {a : Act} {W : World} {Q : Exit → Act → World → Prop} (hgd : o.guard = none) (x y : Operand) (t e : TypeId) (n : Nat)
    (ho : o.op = .call { callee := .builtin .append, args := #[x, y], argTypes := #[t, t] }) (ht : Yba.prog.underlying t = some (.slice e)) (hi : (Yba.prog.info? e).map (·.size) = some n)
    (g m cap : Nat) (cs : Array Value) (hx : a.eval x = .slice (some ⟨g, 0, none⟩) m cap) (hy : a.eval y = .slice (some ⟨W.heap.size, 0, none⟩) 1 1) (hl : cs.size = n) (h1 : cs.all (·.oneCell') = true)
    (hroom : m + 1 ≤ cap) (hthere : W.there g 0 (cap * n)) (hgl : g < W.heap.size)
    (h : wpList Yba.prog ops Q rest (a.put o.dst (.slice (some ⟨g, 0, none⟩) (m + 1) cap)) ((W.alloc (.cells cs e)).setCells g (m * n) cs.toList)) : wpList Yba.prog ops Q (o :: rest) a (W.alloc (.cells cs e)) := by
  refine wpList_append_room hgd x y t e n ho ht hi g m cap W.heap.size 1 hx hy cs.toList (by rw [Array.length_toList, hl]) (range_new W cs e) (one_list h1) hroom ?_ h
  refine there_sub (there_below hthere ((Below.refl W.heap.size _).alloc (Nat.le_refl _) _) hgl) ?_
  rw [← Nat.succ_mul]
  exact Nat.mul_le_mul_right _ hroom

/-- what stands while one entry is laid -/
structure Arm (w wr W : World) (sf k key : List Nat) (n g : Nat) (rc : Rec) (LK LB LP LR LC : List Ent) : Prop where
  lay : Lay1 w W sf k n LK LB LP LR LC
  ky : KeyAt W (wr.heap.size + 1) 0 key
  rcd : RecAt W g 0 rc
  kl : w.heap.size + 8 ≤ wr.heap.size
  gl : wr.heap.size + 1 < g
  gs : g < W.heap.size
theorem Arm.alloc {w wr W : World} {sf k key : List Nat} {n g : Nat} {rc : Rec} {LK LB LP LR LC : List Ent} (h : Arm w wr W sf k key n g rc LK LB LP LR LC) (o : Obj) : Arm w wr (W.alloc o) sf k key n g rc LK LB LP LR LC := by
  have hb : Below W.heap.size W (W.alloc o) := (Below.refl _ _).alloc (Nat.le_refl _) _
  have := h.gs
  have := h.gl
  have := h.kl
  exact ⟨h.lay.keep (hb.mono (by omega)), h.ky.below hb (by omega), h.rcd.below hb h.gs, h.kl, h.gl, by simp; omega⟩
theorem Arm.setAt {w wr W : World} {sf k key : List Nat} {n g : Nat} {rc : Rec} {LK LB LP LR LC LK' LB' LP' LR' LC' : List Ent} (h : Arm w wr W sf k key n g rc LK LB LP LR LC) (b o : Nat) (vs : List Value) (hb : b < w.heap.size + 8) (hl : Lay1 w (W.setCells b o vs) sf k n LK' LB' LP' LR' LC') : Arm w wr (W.setCells b o vs) sf k key n g rc LK' LB' LP' LR' LC' := by
  have := h.gs
  have := h.gl
  have := h.kl
  exact ⟨hl, rangeAt_set _ _ h.ky (Or.inl (by omega)), rangeAt_set _ _ h.rcd (Or.inl (by omega)), h.kl, h.gl, by rw [size_setCells]; exact h.gs⟩
theorem Arm.tB1 {w wr W : World} {sf k key : List Nat} {n g : Nat} {rc : Rec} {LK LB LP LR LC : List Ent} (h : Arm w wr W sf k key n g rc LK LB LP LR LC) : W.there (w.heap.size + 4) 0 (n * 1) := by rw [Nat.mul_one]; exact h.lay.tB
theorem Arm.tP1 {w wr W : World} {sf k key : List Nat} {n g : Nat} {rc : Rec} {LK LB LP LR LC : List Ent} (h : Arm w wr W sf k key n g rc LK LB LP LR LC) : W.there (w.heap.size + 5) 0 (n * 1) := by rw [Nat.mul_one]; exact h.lay.tP
theorem Arm.putK {w wr W : World} {sf k key : List Nat} {n g : Nat} {rc : Rec} {LK LB LP LR LC : List Ent} (h : Arm w wr W sf k key n g rc LK LB LP LR LC) (e : Ent) (o : Obj) (hm : LK.length < n) (hk : IsKey e.key) (hks : ∀ (i : Nat) (x : Ent), LK[i]? = some x → IsKey x.key) :
    Arm w wr ((W.alloc o).setCells (w.heap.size + 3) (LK.length * 32) (kcells e.key).toList) sf k key n g rc (LK ++ [e]) LB LP LR LC :=
  (h.alloc o).setAt _ _ _ (by omega) ((h.alloc o).lay.addK e hm hk hks)
theorem Arm.putB {w wr W : World} {sf k key : List Nat} {n g : Nat} {rc : Rec} {LK LB LP LR LC : List Ent} (h : Arm w wr W sf k key n g rc LK LB LP LR LC) (e : Ent) (o : Obj) (hm : LB.length < n) :
    Arm w wr ((W.alloc o).setCells (w.heap.size + 4) LB.length [.int .i64 (e.b : Int)]) sf k key n g rc LK (LB ++ [e]) LP LR LC :=
  (h.alloc o).setAt _ _ _ (by omega) (by have := (h.alloc o).lay.addB e hm; rwa [Nat.mul_one] at this)
theorem Arm.putP {w wr W : World} {sf k key : List Nat} {n g : Nat} {rc : Rec} {LK LB LP LR LC : List Ent} (h : Arm w wr W sf k key n g rc LK LB LP LR LC) (e : Ent) (o : Obj) (hm : LP.length < n) :
    Arm w wr ((W.alloc o).setCells (w.heap.size + 5) LP.length [.int .i64 (e.pos : Int)]) sf k key n g rc LK LB (LP ++ [e]) LR LC :=
  (h.alloc o).setAt _ _ _ (by omega) (by have := (h.alloc o).lay.addP e hm; rwa [Nat.mul_one] at this)
theorem Arm.putR {w wr W : World} {sf k key : List Nat} {n g : Nat} {rc : Rec} {LK LB LP LR LC : List Ent} (h : Arm w wr W sf k key n g rc LK LB LP LR LC) (e : Ent) (o : Obj) (hm : LR.length < n) :
    Arm w wr ((W.alloc o).setCells (w.heap.size + 6) (LR.length * 8) (recC e.rc).toList) sf k key n g rc LK LB LP (LR ++ [e]) LC :=
  (h.alloc o).setAt _ _ _ (by omega) ((h.alloc o).lay.addR e hm)
theorem WF.isKey {sf k0 : List Nat} {own : Bool} {L : List Ent} (h : WF sf k0 own L) (i : Nat) (x : Ent) (hx : L[i]? = some x) : IsKey x.key := by
  have hlt := (List.getElem?_eq_some_iff.1 hx).1
  have hsp : L = L.take i ++ x :: L.drop (i + 1) := by
    have : L[i] = x := (List.getElem?_eq_some_iff.1 hx).2
    rw [← this, List.getElem_cons_drop, List.take_append_drop]
  exact (h.1 _ _ _ hsp).2.2
end Go.Proofs.Ybulkegxe
