import Derived.Test.YbulkegziFmtWalk
import Derived.Laws.Rows
import Derived.Deep.MidRow
namespace Go.Proofs.YbulkegziFmt
open Go.RowKit

/-- an order's cells -/
def ord (s0 s1 s2 s3 s4 s5 : ByteArray) (hd ln : Int) : Array Value :=
  #[.string s0, .string s1, .string s2, .string s3, .int .i64 0, .pointer none, .int .i64 0, .pointer none, .int .i64 0, .pointer none, .int .i64 hd, .int .i64 0, .pointer none, .string s4, .int .i64 0, .pointer none, .string s5, .int .i64 ln]

theorem ord_size (s0 s1 s2 s3 s4 s5 : ByteArray) (hd ln : Int) : (ord s0 s1 s2 s3 s4 s5 hd ln).size = 18 := rfl
theorem ord_one (s0 s1 s2 s3 s4 s5 : ByteArray) (hd ln : Int) : ∀ v ∈ (ord s0 s1 s2 s3 s4 s5 hd ln).toList, v.oneCell' = true := by
  intro v hv
  simp [ord] at hv
  rcases hv with h | h | h | h | h | h | h | h | h | h | h | h | h | h | h | h | h | h <;> subst h <;> rfl
theorem ord_16 (s0 s1 s2 s3 s4 s5 : ByteArray) (hd ln : Int) : (ord s0 s1 s2 s3 s4 s5 hd ln)[16]? = some (.string s5) := rfl
theorem ord_set (s0 s1 s2 s3 s4 s5 t : ByteArray) (hd ln : Int) : (ord s0 s1 s2 s3 s4 s5 hd ln).setIfInBounds 16 (.string t) = ord s0 s1 s2 s3 s4 t hd ln := rfl
theorem ord_build (s0 s1 s2 s3 s4 s5 : ByteArray) (hd ln : Int) (w : World) : (Instr.build 30 #[(0, .string s0), (1, .string s1), (2, .string s2), (3, .string s3), (7, .int .i64 hd), (9, .string s4), (11, .string s5), (12, .int .i64 ln)]).run Ybaf.prog w = .ok (.agg (ord s0 s1 s2 s3 s4 s5 hd ln)) w := by kernel_rfl

set_option maxRecDepth 100000 in
set_option maxHeartbeats 1600000 in
theorem ord_eq (s0 s1 s2 s3 s4 s5 : ByteArray) (hd ln : Int) (w : World) :
    (binOp .eql 30 (.agg (ord s0 s1 s2 s3 s4 s5 hd ln)) (.agg (ord s0 s1 s2 s3 s4 s5 hd ln))).run Ybaf.prog w = .ok (.bool true) w := by
  simp only [binOp]
  have h : ∀ d, (Op.equalIn (d + 1 + 1 + 1) 30 (.agg (ord s0 s1 s2 s3 s4 s5 hd ln)) (.agg (ord s0 s1 s2 s3 s4 s5 hd ln))).run Ybaf.prog w = .ok true w := by
    intro d
    rw [run_equalIn_struct _ _ _ _ _ (by kernel_rfl) (by kernel_rfl)]
    have hn := fun w => run_equalIn_pointer_nil (P := Ybaf.prog) w d 26 none (by kernel_rfl)
    simp [go_sem, hn, ord]
  simp [Op.equal, Op.maxDepth, h 9997]

/-- the cells of a variable of the order's type, new -/
theorem ord_alloc : ∃ Z : Array Value, Z.size = 18 ∧ ∀ w : World, (Instr.alloc 30 true (.tuple #[])).run Ybaf.prog w = .ok (.pointer (some ⟨w.heap.size, 0, none⟩)) (w.alloc (.cells Z 30)) :=
  ⟨ord ⟨#[]⟩ ⟨#[]⟩ ⟨#[]⟩ ⟨#[]⟩ ⟨#[]⟩ ⟨#[]⟩ 0 0, rfl, fun w => by kernel_rfl⟩

theorem setRow_new (w : World) (Z C : Array Value) (t : TypeId) : (w.alloc (.cells Z t)).setRow w.heap.size C = w.alloc (.cells C t) := by
  have : (w.alloc (.cells Z t)).heap = w.heap.push (.cells Z t) := rfl
  unfold World.setRow World.alloc
  congr 1
  apply Array.ext_getElem?
  intro i
  simp only [Array.getElem?_modify, Array.getElem?_push]
  by_cases e : w.heap.size = i
  · subst e; simp
  · simp [e, Ne.symm e]

section
variable {w : World} {ops : Array Oper} {rest : List Oper} {o : Oper} {a : Act} {Q : Exit → Act → World → Prop}
theorem wpList_value (hgd : o.guard = none) (v : Value) (w' : World) (hrun : (execOp a.eval o).run Ybaf.prog w = .ok (.value v) w') (h : wpList Ybaf.prog ops Q rest (a.put o.dst v) w') : wpList Ybaf.prog ops Q (o :: rest) a w := by
  refine wpList_plain hgd fun K hK => ?_
  unfold Oper.wp
  rw [hrun]
  exact hK _ _ h
set_option maxRecDepth 100000 in
theorem wpList_build30 {s0 s1 s2 s3 s4 s5 : ByteArray} {hd ln : Int} (hgd : o.guard = none) (ho : o.op = .build 30 #[(0, .tmp 36), (1, .tmp 37), (2, .tmp 38), (3, .tmp 39), (7, .tmp 40), (9, .tmp 41), (11, .tmp 42), (12, .tmp 43)])
    (e0 : a.eval (.tmp 36) = .string s0) (e1 : a.eval (.tmp 37) = .string s1) (e2 : a.eval (.tmp 38) = .string s2) (e3 : a.eval (.tmp 39) = .string s3) (e4 : a.eval (.tmp 40) = .int .i64 hd) (e5 : a.eval (.tmp 41) = .string s4) (e6 : a.eval (.tmp 42) = .string s5) (e7 : a.eval (.tmp 43) = .int .i64 ln)
    (h : wpList Ybaf.prog ops Q rest (a.put o.dst (.agg (ord s0 s1 s2 s3 s4 s5 hd ln))) w) : wpList Ybaf.prog ops Q (o :: rest) a w := by
  refine wpList_value hgd _ w ?_ h
  simp only [execOp, ho, List.map_toArray, List.map_cons, List.map_nil, e0, e1, e2, e3, e4, e5, e6, e7]
  rw [Sem.run_bind, ord_build]
  simp
theorem wpList_alloc30 {Z : Array Value} (hZ : ∀ w : World, (Instr.alloc 30 true (.tuple #[])).run Ybaf.prog w = .ok (.pointer (some ⟨w.heap.size, 0, none⟩)) (w.alloc (.cells Z 30))) (hgd : o.guard = none) (ho : o.op = .alloc 30)
    (h : wpList Ybaf.prog ops Q rest (a.put o.dst (.pointer (some ⟨w.heap.size, 0, none⟩))) (w.alloc (.cells Z 30))) : wpList Ybaf.prog ops Q (o :: rest) a w := by
  refine wpList_value hgd _ _ ?_ h
  simp only [execOp, ho]
  rw [Sem.run_bind, hZ]
  simp
/-- a whole order stored into a new variable -/
theorem wpList_store30 {Z C : Array Value} (hZ : Z.size = 18) (hC : C.size = 18) (h1 : ∀ v ∈ C.toList, v.oneCell' = true) (hgd : o.guard = none) (x y : Operand) (ho : o.op = .store 30 x y) (hx : a.eval x = .pointer (some ⟨w.heap.size, 0, none⟩)) (hy : a.eval y = .agg C)
    (h : wpList Ybaf.prog ops Q rest (a.put o.dst undef) (w.alloc (.cells C 30))) : wpList Ybaf.prog ops Q (o :: rest) a (w.alloc (.cells Z 30)) := by
  refine wpList_plain hgd fun K hK => ?_
  have hst := run_storeCells_at Ybaf.prog w.heap.size 0 30 C.toList 0 Z (w.alloc (.cells Z 30)) (heap_alloc_new w _) (by simp [hZ, hC]) h1
  have e : (Z.toList.take (0 + 0) ++ C.toList ++ Z.toList.drop (0 + 0 + C.toList.length)).toArray = C := by
    have : Z.toList.drop (0 + 0 + C.toList.length) = [] := List.drop_eq_nil_of_le (by simp [hZ, hC])
    rw [this]; simp
  rw [e, setRow_new] at hst
  obtain ⟨i, hi, hs⟩ : ∃ i, Ybaf.prog.info? 30 = some i ∧ i.size = 18 := Option.map_eq_some_iff.1 (show (Ybaf.prog.info? 30).map (·.size) = some 18 by kernel_rfl)
  unfold Oper.wp
  simp [execOp, ho, hx, hy, Instr.storeAt, Instr.sureAddr, storeVar, Value.cells, sizeOf, typeInfo, hi, hs, hC, hst, Oper.upon]
  exact hK _ _ h
end
theorem quiet_load30 {o : Oper} {a : Act} {C : World → Prop} {K : Act → Prop} (x : Operand) (ho : o.op = .load 30 x) (b : Nat) (hx : a.eval x = .pointer (some ⟨b, 0, none⟩)) (cs : Array Value) (hcs : cs.size = 18)
    (hC : ∀ w, C w → w.heap[b]? = some (.cells cs 30 (0, 0))) (hk : K (a.put o.dst (.agg cs))) : o.quiet Ybaf.prog a C K := by
  refine ⟨_, fun w hw => ?_, hk⟩
  have hl : (loadVar 30 ⟨b, 0, none⟩).run Ybaf.prog w = .ok (.agg cs) w :=
    run_loadVar_row w b 30 30 cs (0, 0) _ (hC w hw) Ybaf.underlying30 rfl (by rw [hcs]; kernel_rfl)
  unfold Oper.quietAt
  simp [execOp, ho, hx, Instr.loadAt, Instr.sureAddr, hl, Oper.quietUpon]
theorem heap3_0 (w : World) (A B D : Obj) (n : Nat) : ((((w.alloc A).alloc B).alloc D).drewN n).heap[w.heap.size]? = some A := by
  rw [World.heap_drewN, Below.heap_alloc _ _ _ (by simp; omega), Below.heap_alloc _ _ _ (by simp)]; exact heap_alloc_new w A
theorem heap3_2 (w : World) (A B D : Obj) (n : Nat) : ((((w.alloc A).alloc B).alloc D).drewN n).heap[w.heap.size + 1 + 1]? = some D := by
  rw [World.heap_drewN]
  have := heap_alloc_new ((w.alloc A).alloc B) D
  simpa using this
end Go.Proofs.YbulkegziFmt
