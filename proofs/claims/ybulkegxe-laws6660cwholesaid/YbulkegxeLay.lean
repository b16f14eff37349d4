import Derived.Test.YbulkegxeModel
import Derived.Deep.WholeRow
import Derived.ArgAppend
import Derived.Lib.LazyBuf
namespace Go.Proofs.Ybulkegxe
open Go.RowKit Go.Lib
set_option linter.unusedVariables false

theorem Yba.size28 : (Yba.prog.info? 28).map (·.size) = some 32 := by kernel_rfl
theorem Yba.size59 : (Yba.prog.info? 59).map (·.size) = some 39 := by kernel_rfl
theorem wpList_load_k28 {ops : Array Oper} {rest : List Oper} {o : Oper} {a : Act} {w : World} {Q : Exit → Act → World → Prop} (hgd : o.guard = none) (x : Operand) (ho : o.op = .load 28 x)
    (g off : Nat) (hx : a.eval x = .pointer (some ⟨g, off, none⟩)) (k : List Nat) (hK : KeyAt w g off k) (hk : IsKey k)
    (h : wpList Yba.prog ops Q rest (a.put o.dst (.agg (kcells k))) w) : wpList Yba.prog ops Q (o :: rest) a w := by
  refine wpList_load_mid hgd 28 x ho g off hx (kcells k).toList _ hK Yba.underlying28 rfl (by rw [Yba.size28, Array.length_toList, kcells_size, hk.len]) ?_
  simpa using h

/-- one of the law's inputs in memory -/
def inpC (r : Inp) : Array Value := kcells r.key ++ #[.int .u8 (r.pick : Int), .int .i64 r.added, .int .i64 r.answered, .bool r.never, .int .i64 r.lookups, .int .i64 r.closer, .int .i64 r.failed]
def InpAt (w : World) (g o : Nat) (r : Inp) : Prop := w.rangeAt g o (inpC r).toList
theorem inpC_size (r : Inp) (h : IsKey r.key) : (inpC r).size = 39 := by unfold inpC; rw [Array.size_append, kcells_size, h.len]; rfl
theorem kcells_one (k : List Nat) : (kcells k).all (·.oneCell') = true := by
  unfold kcells
  refine all_oneCell_toArray ?_
  intro v hv
  obtain ⟨z, _, rfl⟩ := List.mem_map.1 hv
  rfl
theorem inpC_one (r : Inp) : (inpC r).all (·.oneCell') = true := by
  unfold inpC
  rw [Array.all_append]
  simp only [Bool.and_eq_true]
  exact ⟨kcells_one r.key, by simp [Value.oneCell']⟩
theorem wpList_load_inp {ops : Array Oper} {rest : List Oper} {o : Oper} {a : Act} {w : World} {Q : Exit → Act → World → Prop} (hgd : o.guard = none) (x : Operand) (ho : o.op = .load 59 x)
    (g off : Nat) (hx : a.eval x = .pointer (some ⟨g, off, none⟩)) (r : Inp) (hK : InpAt w g off r) (hk : IsKey r.key)
    (h : wpList Yba.prog ops Q rest (a.put o.dst (.agg (inpC r))) w) : wpList Yba.prog ops Q (o :: rest) a w := by
  refine wpList_load_mid hgd 59 x ho g off hx (inpC r).toList _ hK Yba.underlying59 rfl (by rw [Yba.size59, Array.length_toList, inpC_size r hk]) ?_
  simpa using h

/-- a row laid whole into the block that was made last -/
theorem wpList_store_last {ops : Array Oper} {rest : List Oper} {o : Oper} {a : Act} {W : World} {Q : Exit → Act → World → Prop} (hgd : o.guard = none) (ty : TypeId) (x y : Operand) (ho : o.op = .store ty x y)
    (g : Nat) (old new : Array Value) (hx : a.eval x = .pointer (some ⟨g, 0, none⟩)) (hg : W.heap.size = g) (hy : a.eval y = .agg new) (n : Nat) (hi : (Yba.prog.info? ty).map (·.size) = some n) (hn : new.size = n) (ho2 : old.size = n) (h1 : new.all (·.oneCell') = true)
    (h : wpList Yba.prog ops Q rest (a.put o.dst undef) (W.alloc (.cells new ty))) : wpList Yba.prog ops Q (o :: rest) a (W.alloc (.cells old ty)) := by
  subst hg
  refine wpList_store_row hgd ty x y ho W.heap.size new hx hy ty old (heap_alloc_new _ _) (by rw [hi, hn]) (by rw [hn, ho2]) h1 ?_
  rw [World.setRow_alloc_new]
  exact h

/-- the counts' row -/
def zero257 : Array Value := Array.replicate 257 (.int .i64 0)
theorem alloc57_run (w : World) : (Instr.alloc 57 true (.tuple #[])).run Yba.prog w = .ok (.pointer (some ⟨w.heap.size, 0, none⟩)) (w.alloc (.cells zero257 57)) := by kernel_rfl
theorem wpList_alloc57 {ops : Array Oper} {rest : List Oper} {o : Oper} {a : Act} {w : World} {Q : Exit → Act → World → Prop} (hgd : o.guard = none) (ho : o.op = .alloc 57)
    (h : wpList Yba.prog ops Q rest (a.put o.dst (.pointer (some ⟨w.heap.size, 0, none⟩))) (w.alloc (.cells zero257 57))) : wpList Yba.prog ops Q (o :: rest) a w := by
  refine wpList_plain hgd fun K hK => ?_
  unfold Oper.wp execOp
  simp only [ho, Sem.run_bind, alloc57_run, Result.andThen_ok]
  exact hK _ _ h

/-- append where there is room -/
theorem wpList_append_room {ops : Array Oper} {rest : List Oper} {o : Oper} {a : Act} {w : World} {Q : Exit → Act → World → Prop} (hgd : o.guard = none) (x y : Operand) (t e : TypeId) (n : Nat)
    (ho : o.op = .call { callee := .builtin .append, args := #[x, y], argTypes := #[t, t] }) (ht : Yba.prog.underlying t = some (.slice e)) (hi : (Yba.prog.info? e).map (·.size) = some n)
    (g m cap b c : Nat) (hx : a.eval x = .slice (some ⟨g, 0, none⟩) m cap) (hy : a.eval y = .slice (some ⟨b, 0, none⟩) 1 c) (news : List Value) (hl : news.length = n) (hnews : w.rangeAt b 0 news) (h1 : ∀ u ∈ news, u.oneCell' = true)
    (hroom : m + 1 ≤ cap) (hthere : w.there g (m * n) n)
    (h : wpList Yba.prog ops Q rest (a.put o.dst (.slice (some ⟨g, 0, none⟩) (m + 1) cap)) (w.setCells g (m * n) news)) : wpList Yba.prog ops Q (o :: rest) a w := by
  obtain ⟨i, hq, hs⟩ := Option.map_eq_some_iff.1 hi
  have hrun := run_append_room_cells (P := Yba.prog) w t o.type e i ht hq g 0 m cap ⟨b, 0, none⟩ 1 c news (by rw [hl, hs, Nat.one_mul]) (fun j u hj => by rw [Addr.add_mid]; exact hnews j u hj) h1 hroom
    (fun j hj => by rw [hs, Nat.zero_add]; exact (hthere j (by omega)).1) (fun j hj => by rw [hs, Nat.zero_add]; exact (hthere j (by omega)).2)
  rw [hs, Nat.zero_add] at hrun
  refine wpList_plain hgd fun K hK => ?_
  unfold Oper.wp execOp
  simp only [ho, resolve, invoke, builtin, Sem.run_bind, Sem.run_pure, Result.andThen_ok, List.map_toArray, List.map_cons, List.map_nil, hx, hy, hrun]
  exact hK _ _ h

/-! ### a record in memory -/
def recC (r : Rec) : Array Value := #[.int .u64 (r.id : Int), .int .i64 r.added, .int .i64 r.answered, .int .i64 r.lookups, .int .i64 r.closer, .int .i64 r.failed, .int .u32 0, .int .u32 0]
def RecAt (w : World) (g o : Nat) (r : Rec) : Prop := w.rangeAt g o (recC r).toList
theorem RecAt.below {w w' : World} {g o N : Nat} {r : Rec} (h : RecAt w g o r) (hb : Below N w w') (hg : g < N) : RecAt w' g o r := by
  intro j v hj
  rw [hb.cell (p := ⟨g, o + j, none⟩) hg]; exact h j v hj

theorem there_below {w w' : World} {g o n N : Nat} (h : w.there g o n) (hb : Below N w w') (hg : g < N) : w'.there g o n := by
  intro j hj
  rw [hb.cell (p := ⟨g, o + j, none⟩) hg, hb.frozen (p := ⟨g, o + j, none⟩) hg]; exact h j hj
theorem there_sub {w : World} {g n o m : Nat} (h : w.there g 0 n) (hle : o + m ≤ n) : w.there g o m := by
  intro j hj
  have := h (o + j) (by omega)
  rw [Nat.zero_add] at this; exact this
theorem rangeAt_set {w : World} {g o : Nat} {vs : List Value} (b o' : Nat) {cs : List Value} (h : w.rangeAt b o' cs) (hap : b ≠ g ∨ o' + cs.length ≤ o ∨ o + vs.length ≤ o') : (w.setCells g o vs).rangeAt b o' cs := World.rangeAt_setCells_apart h g o vs hap
theorem cell_setCells {w : World} {g o b o' : Nat} {vs : List Value} (hap : b ≠ g ∨ o' < o ∨ o + vs.length ≤ o') : (w.setCells g o vs).cell? ⟨b, o', none⟩ = w.cell? ⟨b, o', none⟩ := by
  rw [World.cell?_setCells_out g vs o w ⟨b, o', none⟩ (fun hb _ => by
    rcases hap with hap | hap | hap
    · exact absurd hb hap
    · left; exact hap
    · right; exact hap)]

/-! ### what the first loop lays -/
structure Lay1 (w wr : World) (sf k : List Nat) (n : Nat) (LK LB LP LR LC : List Ent) : Prop where
  s0 : KeyAt wr w.heap.size 0 sf
  k2 : KeyAt wr (w.heap.size + 2) 0 k
  keys : ∀ i e, LK[i]? = some e → KeyAt wr (w.heap.size + 3) (i * 32) e.key
  bks : ∀ i e, LB[i]? = some e → wr.cell? ⟨w.heap.size + 4, i, none⟩ = some (.int .i64 (e.b : Int))
  poss : ∀ i e, LP[i]? = some e → wr.cell? ⟨w.heap.size + 5, i, none⟩ = some (.int .i64 (e.pos : Int))
  recs : ∀ i e, LR[i]? = some e → RecAt wr (w.heap.size + 6) (i * 8) e.rc
  cnts : ∀ b, b ≤ 256 → wr.cell? ⟨w.heap.size + 7, b, none⟩ = some (.int .i64 ((inB b LC).length : Int))
  tK : wr.there (w.heap.size + 3) 0 (n * 32)
  tB : wr.there (w.heap.size + 4) 0 n
  tP : wr.there (w.heap.size + 5) 0 n
  tR : wr.there (w.heap.size + 6) 0 (n * 8)
  tC : wr.there (w.heap.size + 7) 0 257
  bel : Below w.heap.size w wr
  sz : w.heap.size + 8 ≤ wr.heap.size
theorem Lay1.keep {w wr wx : World} {sf k : List Nat} {n : Nat} {LK LB LP LR LC : List Ent} (h : Lay1 w wr sf k n LK LB LP LR LC) (hb : Below (w.heap.size + 8) wr wx) : Lay1 w wx sf k n LK LB LP LR LC where
  s0 := h.s0.below hb (by omega)
  k2 := h.k2.below hb (by omega)
  keys := fun i e he => (h.keys i e he).below hb (by omega)
  bks := fun i e he => by rw [hb.cell (p := ⟨w.heap.size + 4, i, none⟩) (by simp)]; exact h.bks i e he
  poss := fun i e he => by rw [hb.cell (p := ⟨w.heap.size + 5, i, none⟩) (by simp)]; exact h.poss i e he
  recs := fun i e he => (h.recs i e he).below hb (by omega)
  cnts := fun b hb' => by rw [hb.cell (p := ⟨w.heap.size + 7, b, none⟩) (by simp)]; exact h.cnts b hb'
  tK := there_below h.tK hb (by omega)
  tB := there_below h.tB hb (by omega)
  tP := there_below h.tP hb (by omega)
  tR := there_below h.tR hb (by omega)
  tC := there_below h.tC hb (by omega)
  bel := h.bel.trans (hb.mono (by omega))
  sz := Nat.le_trans h.sz hb.size

theorem there_set {w : World} {g o n : Nat} {vs : List Value} {b m o' : Nat} (h : w.there b o' m) : (w.setCells g o vs).there b o' m := World.there_setCells h g o vs
theorem size_setCells (g : Nat) : ∀ (vs : List Value) (o : Nat) (w : World), (w.setCells g o vs).heap.size = w.heap.size
  | [], _, _ => rfl
  | v :: r, o, w => by
    rw [World.setCells, size_setCells g r]
    simp [World.setCell]
theorem snoc_get {α : Type} {L : List α} {e x : α} {i : Nat} (h : (L ++ [e])[i]? = some x) : (i < L.length ∧ L[i]? = some x) ∨ (i = L.length ∧ x = e) := by
  by_cases hi : i < L.length
  · rw [List.getElem?_append_left hi] at h; exact Or.inl ⟨hi, h⟩
  · rw [List.getElem?_append_right (by omega)] at h
    have hz : i - L.length = 0 := by
      have := (List.getElem?_eq_some_iff.1 h).1
      simp at this; omega
    rw [hz] at h
    exact Or.inr ⟨by omega, by simpa using h.symm⟩

theorem Lay1.addK {w wr : World} {sf k : List Nat} {n : Nat} {LK LB LP LR LC : List Ent} (h : Lay1 w wr sf k n LK LB LP LR LC) (e : Ent) (hm : LK.length < n) (hk : IsKey e.key) (hks : ∀ (i : Nat) (x : Ent), LK[i]? = some x → IsKey x.key) : Lay1 w (wr.setCells (w.heap.size + 3) (LK.length * 32) (kcells e.key).toList) sf k n (LK ++ [e]) LB LP LR LC where
  s0 := rangeAt_set _ _ h.s0 (Or.inl (by omega))
  k2 := rangeAt_set _ _ h.k2 (Or.inl (by omega))
  keys := fun i x hx => by
    rcases snoc_get hx with ⟨hi, hg⟩ | ⟨rfl, rfl⟩
    · exact rangeAt_set _ _ (h.keys i x hg) (Or.inr (Or.inl (by
        have hl : ((kcells x.key).toList).length = 32 := by rw [Array.length_toList, kcells_size, (hks i x hg).len]
        have : (i + 1) * 32 ≤ LK.length * 32 := Nat.mul_le_mul_right _ hi
        rw [Nat.succ_mul] at this; rw [hl]; exact this)))
    · exact World.rangeAt_setCells_same _ _ _ _ (by
        have hl : ((kcells x.key).toList).length = 32 := by rw [Array.length_toList, kcells_size, hk.len]
        rw [hl]; refine there_sub h.tK ?_
        have : (LK.length + 1) * 32 ≤ n * 32 := Nat.mul_le_mul_right _ hm
        rw [Nat.succ_mul] at this; exact this)
  bks := fun i x hx => by rw [cell_setCells (Or.inl (by omega))]; exact h.bks i x hx
  poss := fun i x hx => by rw [cell_setCells (Or.inl (by omega))]; exact h.poss i x hx
  recs := fun i x hx => rangeAt_set _ _ (h.recs i x hx) (Or.inl (by omega))
  cnts := fun b hb => by rw [cell_setCells (Or.inl (by omega))]; exact h.cnts b hb
  tK := World.there_setCells h.tK _ _ _
  tB := World.there_setCells h.tB _ _ _
  tP := World.there_setCells h.tP _ _ _
  tR := World.there_setCells h.tR _ _ _
  tC := World.there_setCells h.tC _ _ _
  bel := below_setCells (by omega) _ _ _ h.bel
  sz := by rw [size_setCells]; exact h.sz
theorem Lay1.addB {w wr : World} {sf k : List Nat} {n : Nat} {LK LB LP LR LC : List Ent} (h : Lay1 w wr sf k n LK LB LP LR LC) (e : Ent) (hm : LB.length < n) : Lay1 w (wr.setCells (w.heap.size + 4) (LB.length * 1) [.int .i64 (e.b : Int)]) sf k n LK (LB ++ [e]) LP LR LC where
  s0 := rangeAt_set _ _ h.s0 (Or.inl (by omega))
  k2 := rangeAt_set _ _ h.k2 (Or.inl (by omega))
  keys := fun i x hx => rangeAt_set _ _ (h.keys i x hx) (Or.inl (by omega))
  bks := fun i x hx => by
    rcases snoc_get hx with ⟨hi, hg⟩ | ⟨rfl, rfl⟩
    · rw [Nat.mul_one, cell_setCells (Or.inr (Or.inl hi))]; exact h.bks i x hg
    · have := World.rangeAt_setCells_same wr (w.heap.size + 4) (LB.length * 1) [.int .i64 (x.b : Int)] (by refine there_sub h.tB ?_; simp; omega) 0 _ rfl
      simpa using this
  poss := fun i x hx => by rw [cell_setCells (Or.inl (by omega))]; exact h.poss i x hx
  recs := fun i x hx => rangeAt_set _ _ (h.recs i x hx) (Or.inl (by omega))
  cnts := fun b hb => by rw [cell_setCells (Or.inl (by omega))]; exact h.cnts b hb
  tK := World.there_setCells h.tK _ _ _
  tB := World.there_setCells h.tB _ _ _
  tP := World.there_setCells h.tP _ _ _
  tR := World.there_setCells h.tR _ _ _
  tC := World.there_setCells h.tC _ _ _
  bel := below_setCells (by omega) _ _ _ h.bel
  sz := by rw [size_setCells]; exact h.sz
theorem Lay1.addP {w wr : World} {sf k : List Nat} {n : Nat} {LK LB LP LR LC : List Ent} (h : Lay1 w wr sf k n LK LB LP LR LC) (e : Ent) (hm : LP.length < n) : Lay1 w (wr.setCells (w.heap.size + 5) (LP.length * 1) [.int .i64 (e.pos : Int)]) sf k n LK LB (LP ++ [e]) LR LC where
  s0 := rangeAt_set _ _ h.s0 (Or.inl (by omega))
  k2 := rangeAt_set _ _ h.k2 (Or.inl (by omega))
  keys := fun i x hx => rangeAt_set _ _ (h.keys i x hx) (Or.inl (by omega))
  bks := fun i x hx => by rw [cell_setCells (Or.inl (by omega))]; exact h.bks i x hx
  poss := fun i x hx => by
    rcases snoc_get hx with ⟨hi, hg⟩ | ⟨rfl, rfl⟩
    · rw [Nat.mul_one, cell_setCells (Or.inr (Or.inl hi))]; exact h.poss i x hg
    · have := World.rangeAt_setCells_same wr (w.heap.size + 5) (LP.length * 1) [.int .i64 (x.pos : Int)] (by refine there_sub h.tP ?_; simp; omega) 0 _ rfl
      simpa using this
  recs := fun i x hx => rangeAt_set _ _ (h.recs i x hx) (Or.inl (by omega))
  cnts := fun b hb => by rw [cell_setCells (Or.inl (by omega))]; exact h.cnts b hb
  tK := World.there_setCells h.tK _ _ _
  tB := World.there_setCells h.tB _ _ _
  tP := World.there_setCells h.tP _ _ _
  tR := World.there_setCells h.tR _ _ _
  tC := World.there_setCells h.tC _ _ _
  bel := below_setCells (by omega) _ _ _ h.bel
  sz := by rw [size_setCells]; exact h.sz
theorem Lay1.addR {w wr : World} {sf k : List Nat} {n : Nat} {LK LB LP LR LC : List Ent} (h : Lay1 w wr sf k n LK LB LP LR LC) (e : Ent) (hm : LR.length < n) : Lay1 w (wr.setCells (w.heap.size + 6) (LR.length * 8) (recC e.rc).toList) sf k n LK LB LP (LR ++ [e]) LC where
  s0 := rangeAt_set _ _ h.s0 (Or.inl (by omega))
  k2 := rangeAt_set _ _ h.k2 (Or.inl (by omega))
  keys := fun i x hx => rangeAt_set _ _ (h.keys i x hx) (Or.inl (by omega))
  bks := fun i x hx => by rw [cell_setCells (Or.inl (by omega))]; exact h.bks i x hx
  poss := fun i x hx => by rw [cell_setCells (Or.inl (by omega))]; exact h.poss i x hx
  recs := fun i x hx => by
    rcases snoc_get hx with ⟨hi, hg⟩ | ⟨rfl, rfl⟩
    · exact rangeAt_set _ _ (h.recs i x hg) (Or.inr (Or.inl (by
        have hl : ((recC x.rc).toList).length = 8 := rfl
        have : (i + 1) * 8 ≤ LR.length * 8 := Nat.mul_le_mul_right _ hi
        rw [Nat.succ_mul] at this; rw [hl]; exact this)))
    · exact World.rangeAt_setCells_same _ _ _ _ (by
        have hl : ((recC x.rc).toList).length = 8 := rfl
        rw [hl]; refine there_sub h.tR ?_
        have : (LR.length + 1) * 8 ≤ n * 8 := Nat.mul_le_mul_right _ hm
        rw [Nat.succ_mul] at this; exact this)
  cnts := fun b hb => by rw [cell_setCells (Or.inl (by omega))]; exact h.cnts b hb
  tK := World.there_setCells h.tK _ _ _
  tB := World.there_setCells h.tB _ _ _
  tP := World.there_setCells h.tP _ _ _
  tR := World.there_setCells h.tR _ _ _
  tC := World.there_setCells h.tC _ _ _
  bel := below_setCells (by omega) _ _ _ h.bel
  sz := by rw [size_setCells]; exact h.sz
theorem Lay1.addC {w wr : World} {sf k : List Nat} {n : Nat} {LK LB LP LR LC : List Ent} (h : Lay1 w wr sf k n LK LB LP LR LC) (e : Ent) (hb : e.b ≤ 256) : Lay1 w (wr.setCell ⟨w.heap.size + 7, e.b, none⟩ (.int .i64 (((inB e.b LC).length : Int) + 1))) sf k n LK LB LP LR (LC ++ [e]) := by
  have e1 : wr.setCell ⟨w.heap.size + 7, e.b, none⟩ (.int .i64 (((inB e.b LC).length : Int) + 1)) = wr.setCells (w.heap.size + 7) e.b [.int .i64 (((inB e.b LC).length : Int) + 1)] := rfl
  rw [e1]
  exact {
    s0 := rangeAt_set _ _ h.s0 (Or.inl (by omega))
    k2 := rangeAt_set _ _ h.k2 (Or.inl (by omega))
    keys := fun i x hx => rangeAt_set _ _ (h.keys i x hx) (Or.inl (by omega))
    bks := fun i x hx => by rw [cell_setCells (Or.inl (by omega))]; exact h.bks i x hx
    poss := fun i x hx => by rw [cell_setCells (Or.inl (by omega))]; exact h.poss i x hx
    recs := fun i x hx => rangeAt_set _ _ (h.recs i x hx) (Or.inl (by omega))
    cnts := fun b hb' => by
      rw [inB_append, List.length_append]
      by_cases hbe : b = e.b
      · subst hbe
        have h1 : (inB e.b [e]).length = 1 := by unfold inB; simp
        have := World.rangeAt_setCells_same wr (w.heap.size + 7) e.b [.int .i64 (((inB e.b LC).length : Int) + 1)] (there_sub h.tC (by simp; omega)) 0 _ rfl
        rw [h1]
        simpa using this
      · have h1 : (inB b [e]).length = 0 := by unfold inB; simp; omega
        rw [h1, cell_setCells (by right; simp; omega)]
        exact h.cnts b hb'
    tK := World.there_setCells h.tK _ _ _
    tB := World.there_setCells h.tB _ _ _
    tP := World.there_setCells h.tP _ _ _
    tR := World.there_setCells h.tR _ _ _
    tC := World.there_setCells h.tC _ _ _
    bel := below_setCells (by omega) _ _ _ h.bel
    sz := by rw [size_setCells]; exact h.sz }
end Go.Proofs.Ybulkegxe
