import Derived.Test.YbulkehayDoorStep
import Derived.Lib.Builder
namespace Go.Proofs.YbulkehayDoor
open Go.RowKit

/-- the peer's marks as the law makes them -/
def markOf (z2 z3 : List Int) (n : Nat) (short : Bool) (i : Nat) : Nat :=
  if z3.length = 0 then 0 else bif short then wordOf z3 i n &&& (18446744073709551615 - wordOf z2 i n) else wordOf z3 i n

theorem markOf_lt (z2 z3 : List Int) (n : Nat) (short : Bool) (h3 : AllU z3) (i : Nat) : markOf z2 z3 n short i < 18446744073709551616 := by
  unfold markOf
  split
  · decide
  · cases short
    · exact wordOf_lt z3 h3 i n
    · exact Nat.lt_of_le_of_lt Nat.and_le_left (wordOf_lt z3 h3 i n)

theorem short_clear (z2 z3 : List Int) (n : Nat) (short : Bool) (h2 : AllU z2) (h : short = true ∨ z3.length = 0) (i : Nat) : (bitOf (fun j => wordOf z2 j n) i && bitOf (markOf z2 z3 n short) i) = false := by
  unfold bitOf markOf
  split
  · simp
  · rename_i hne
    rcases h with rfl | h
    · exact andNot_clear (wordOf z3 (i / 64) n) (wordOf z2 (i / 64) n) (i % 64) (wordOf_lt z2 h2 _ _)
    · exact absurd h hne

/-- the law's marks: nil, or words of the call's own -/
def MarksAt (w : World) (g1 : Nat) (mo : Option Addr) (ml W : Nat) (z3 : List Int) (M : Nat → Nat) : Prop :=
  (z3.length = 0 ∧ mo = none ∧ ml = 0) ∨ (z3.length ≠ 0 ∧ ml = W ∧ ∃ g, g1 < g ∧ mo = some ⟨g, 0, none⟩ ∧ Row w g 26 (fill W .u64 (fun i => (M i : Int))))

/-- a bit of the marks, asked for -/
theorem MarksAt.bit {w : World} {g1 : Nat} {mo : Option Addr} {ml W n : Nat} {z2 z3 : List Int} {short : Bool} (h : MarksAt w g1 mo ml W z3 (markOf z2 z3 n short)) (h3 : AllU z3) (hn : n ≤ 6200) (hW : W = (n + 63) / 64) (i : Nat) (hi : i < n) :
    Calls Ybad.prog 5 #[.slice mo ml ml, .int .i64 (i : Int)] w fun e w' => e = .returned (.bool (bitOf (markOf z2 z3 n short) i)) ∧ w' = w := by
  rcases h with ⟨h0, rfl, rfl⟩ | ⟨h0, rfl, g, hg, rfl, hr⟩
  · refine (bit_nil i w).mono ?_
    rintro e w' ⟨rfl, rfl⟩
    refine ⟨?_, rfl⟩
    rw [bitOf, markOf, if_pos h0]; simp
  · exact bit_some g _ i _ w (by omega) (by omega) (markOf_lt z2 z3 n short h3 _) (hr.cell _ _ (fill_get _ _ (by omega)))

theorem MarksAt.below {w w' : World} {g1 : Nat} {mo : Option Addr} {ml W : Nat} {z3 : List Int} {M : Nat → Nat} (h : MarksAt w g1 mo ml W z3 M) (hb : Below w.heap.size w w') : MarksAt w' g1 mo ml W z3 M := by
  rcases h with h | ⟨h1, h2, g, h3, h4, h5⟩
  · exact Or.inl h
  · exact Or.inr ⟨h1, h2, g, h3, h4, h5.below hb h5.lt⟩

/-- what stands once the counts are made -/
def At4 (w wx : World) (n W wd : Nat) (P M : Nat → Nat) (z3 : List Int) (mo : Option Addr) (ml bc mc : Nat) : Prop :=
  MarksAt wx w.heap.size mo ml W z3 M ∧ Row wx w.heap.size 26 (fill W .u64 (fun j => (P j : Int))) ∧ Row wx bc 21 (crow wd (bitOf P) n) ∧ Row wx mc 21 (crow wd (fun i => bitOf P i && bitOf M i) n) ∧ w.heap.size < bc ∧ w.heap.size < mc ∧ Below w.heap.size w wx
theorem At4.below {w wx wy : World} {n W wd : Nat} {P M : Nat → Nat} {z3 : List Int} {mo : Option Addr} {ml bc mc : Nat} (h : At4 w wx n W wd P M z3 mo ml bc mc) (hb : Below wx.heap.size wx wy) : At4 w wy n W wd P M z3 mo ml bc mc := by
  obtain ⟨h1, h2, h3, h4, h5, h6, h7⟩ := h
  exact ⟨h1.below hb, h2.below hb h2.lt, h3.below hb h3.lt, h4.below hb h4.lt, h5, h6, h7.trans (hb.mono h7.size)⟩

/-- the marks' clone -/
def CloneM (wx : World) (v : Value) (base : Nat) (mo : Option Addr) (W : Nat) (M : Nat → Nat) : Prop :=
  (mo = none ∧ v = .slice none 0 0) ∨ ((∃ g, mo = some ⟨g, 0, none⟩) ∧ Cloned wx v base (fill W .u64 (fun j => (M j : Int))))

/-- a copy of the call's own, between the tally and the calls' count -/
def Copy (wz : World) (v : Value) (ta ca : Nat) (xs : List Value) : Prop := ∃ g cap, v = .slice (some ⟨g, 0, none⟩) xs.length cap ∧ ta < g ∧ g < ca ∧ Held wz g xs
theorem Held.same {w w' : World} {g : Nat} {xs : List Value} (h : Held w g xs) (e : w'.heap[g]? = w.heap[g]?) : Held w' g xs := by
  intro j v hj
  have := h j v hj
  simp only [World.cell?, e] at this ⊢
  exact this
theorem Copy.same {wz wy : World} {v : Value} {ta ca : Nat} {xs : List Value} (h : Copy wz v ta ca xs) (e : ∀ g, ta < g → g < ca → wy.heap[g]? = wz.heap[g]?) : Copy wy v ta ca xs := by
  obtain ⟨g, cap, h1, h2, h3, h4⟩ := h
  exact ⟨g, cap, h1, h2, h3, h4.same (e g h2 h3)⟩
theorem Cloned.copy {w1 wz : World} {v : Value} {base ta ca : Nat} {xs : List Value} (h : Cloned w1 v base xs) (hb : Below w1.heap.size w1 wz) (h1 : ta < base) (h2 : w1.heap.size ≤ ca) : Copy wz v ta ca xs := by
  obtain ⟨g, cap, q1, q2, q3, q4⟩ := h
  exact ⟨g, cap, q1, by omega, by omega, q4.below hb q3⟩
theorem Tab.below {w w' : World} (h : Tab w) (hb : Below w.heap.size w w') (h0 : 0 < w.heap.size) : Tab w' := by
  intro j v hj
  rw [hb.cell (p := ⟨0, j, none⟩) h0]
  exact h j v hj

/-- all that stands when nth is called -/
structure Ready (wg wz : World) (n W wd nb D L : Nat) (P M : Nat → Nat) (mo : Option Addr) (ml bcl cg ca o cb : Nat) (vP vB vC vM : Value) : Prop where
  bel : Below wg.heap.size wg wz
  tal : Row wz wg.heap.size 35 [.slice mo ml ml, .slice (some ⟨cg, 0, none⟩) L L]
  cP : Copy wz vP wg.heap.size ca (fill W .u64 (fun j => (P j : Int)))
  cB : Copy wz vB wg.heap.size ca (crow wd (bitOf P) n)
  cC : Copy wz vC wg.heap.size ca (cvals D L (cntRow (fun i => bitOf P i && bitOf M i) n))
  cM : (mo = none ∧ vM = .slice none 0 0) ∨ ((∃ g, mo = some ⟨g, 0, none⟩) ∧ Copy wz vM wg.heap.size ca (fill W .u64 (fun j => (M j : Int))))
  calls : Row wz ca 3 [.int .i64 0]
  seen : Row wz (ca + 1) 39 [.pointer none]
  ord : Row wz o 70 [.slice (some ⟨cb, 0, none⟩) n n, .slice (some ⟨bcl, 0, none⟩) nb nb, .int .i64 (wd : Int), tallyFn ca (ca + 1) wg.heap.size]
  lt : wg.heap.size < ca
  lo : ca + 1 < o

/-- all that stands behind nth -/
structure Done (wg wy : World) (n W wd nb D L : Nat) (P M : Nat → Nat) (mo : Option Addr) (bcl cg ca o : Nat) (p : Option Addr) (vP vB vC vM : Value) : Prop where
  bel : Below wg.heap.size wg wy
  ta1 : wy.cell? ⟨wg.heap.size, 1, none⟩ = some (.slice (some ⟨cg, 0, none⟩) L L)
  ta0 : ∃ mk, wy.cell? ⟨wg.heap.size, 0, none⟩ = some (.slice (some ⟨mk, 0, none⟩) W W) ∧ Held wy mk (fill W .u64 (fun j => (M j : Int)))
  cP : Copy wy vP wg.heap.size ca (fill W .u64 (fun j => (P j : Int)))
  cB : Copy wy vB wg.heap.size ca (crow wd (bitOf P) n)
  cC : Copy wy vC wg.heap.size ca (cvals D L (cntRow (fun i => bitOf P i && bitOf M i) n))
  cM : (mo = none ∧ vM = .slice none 0 0) ∨ ((∃ g, mo = some ⟨g, 0, none⟩) ∧ Copy wy vM wg.heap.size ca (fill W .u64 (fun j => (M j : Int))))
  calls : wy.cell? ⟨ca, 0, none⟩ = some (.int .i64 1)
  seen : wy.cell? ⟨ca + 1, 0, none⟩ = some (.pointer p)
  o1 : wy.cell? ⟨o, 1, none⟩ = some (.slice (some ⟨bcl, 0, none⟩) nb nb)

theorem belowN {B : Nat} {a w : World} (h : Below B a w) (q : Nat) : Below B a (w.drewN q) := ⟨h.os, h.tape, h.output, h.size, h.block⟩

theorem same39 (a : Addr) (w : World) : (binOp .neq 39 (.pointer (some a)) (.pointer (some a))).run Ybad.prog w = .ok (.bool false) w := by
  have h : ((Ybad.prog.info? 66).map (fun i => (i.size, i.bytes))).isSome = true := by kernel_rfl
  cases hq : Ybad.prog.info? 66 with
  | none => rw [hq] at h; cases h
  | some j => exact Lib.run_neq_ptr_same w a Ybad.underlying39 hq

/-- the world behind tallyOf -/
structure Mid (wz w2 : World) (ta ca : Nat) (p : Option Addr) (W mk cg L pc bc wd : Nat) (M : Nat → Nat) : Prop where
  same : ∀ g, g < wz.heap.size → g ≠ ta → g ≠ ca → g ≠ ca + 1 → w2.heap[g]? = wz.heap[g]?
  big : wz.heap.size ≤ w2.heap.size
  os : w2.os = wz.os
  tape : w2.tape = wz.tape
  output : w2.output = wz.output
  calls : w2.cell? ⟨ca, 0, none⟩ = some (.int .i64 1)
  seen : w2.cell? ⟨ca + 1, 0, none⟩ = some (.pointer p)
  ta0 : w2.cell? ⟨ta, 0, none⟩ = some (.slice (some ⟨mk, 0, none⟩) W W)
  ta1 : w2.cell? ⟨ta, 1, none⟩ = some (.slice (some ⟨cg, 0, none⟩) L L)
  mks : Held w2 mk (fill W .u64 (fun j => (M j : Int)))
  b0 : w2.cell? ⟨wz.heap.size, 0, none⟩ = some (.slice (some ⟨pc, 0, none⟩) W W)
  b1 : w2.cell? ⟨wz.heap.size, 1, none⟩ = some (.slice (some ⟨bc, 0, none⟩) wd wd)

theorem nth_after (w wg wz w2 : World) (n W wd nb k D L J : Nat) (P M : Nat → Nat) (z3 : List Int) (mo : Option Addr) (ml bc mc bcl cg ca o cb mk : Nat) (p : Option Addr) (marked us : Bool) (vP vB vC vM : Value)
    (h4 : At4 w wg n W wd P M z3 mo ml bc mc) (hbk : Buckets wg bcl nb k nb w.heap.size W bc wd) (hcv : Row wg cg 21 (cvals D L (cntRow (fun i => bitOf P i && bitOf M i) n)))
    (R : Ready wg wz n W wd nb D L P M mo ml bcl cg ca o cb vP vB vC vM)
    (hD : D = k * wd) (hL : L = (bif us then D else D + wd)) (hus : us = true → ∀ i, (bitOf P i && bitOf M i) = false)
    (hP : ∀ i, P i < 18446744073709551616) (hM : ∀ i, M i < 18446744073709551616) (hpast : ∀ i, n ≤ i → bitOf P i = false) (hT : Tab w) (hw0 : 0 < w.heap.size) (hn : n < 6200) (hW : W = (n + 63) / 64) (hwd : wd = 1 + (n + 2047) / 2048) (hk2 : k ≤ 2) (hkn : k < nb) (hJ : J ≤ 6210)
    (hTo : Calls Ybad.prog 15 #[.pointer (some ⟨o, 0, none⟩), .pointer p] (wz.alloc (.cells #[.slice (some ⟨w.heap.size, 0, none⟩) W W, .slice (some ⟨bc, 0, none⟩) wd wd] 33)) fun e w' => e = .returned (.pointer (some ⟨wg.heap.size, 0, none⟩)) ∧ w' = w2)
    (Q : Mid wz w2 wg.heap.size ca p W mk cg L w.heap.size bc wd M) :
    Calls Ybad.prog 11 #[.pointer (some ⟨o, 0, none⟩), .pointer p, .int .i64 (k : Int), .int .i64 (J : Int), .bool marked] wz fun e w' => ∃ r : Int, e = .returned (.int .i64 r) ∧ Found (fun i => bitOf P i && (bitOf M i == marked)) n J r ∧ Done wg w' n W wd nb D L P M mo bcl cg ca o p vP vB vC vM := by
  have hgz : wg.heap.size ≤ wz.heap.size := R.bel.size
  have hlt := R.lt
  have hlo := R.lo
  have hca := R.calls.lt
  have hse := R.seen.lt
  have hol := R.ord.lt
  have hbelz : Below w.heap.size w wz := h4.2.2.2.2.2.2.trans (R.bel.mono h4.2.2.2.2.2.2.size)
  have hpcg : w.heap.size < wg.heap.size := h4.2.1.lt
  have hbel2 : Below wg.heap.size wg w2 := ⟨Q.os.trans R.bel.os, Q.tape.trans R.bel.tape, Q.output.trans R.bel.output, Nat.le_trans hgz Q.big, fun g hg => (Q.same g (by omega) (by omega) (by omega) (by omega)).trans (R.bel.block g hg)⟩
  have hbk2 := hbk.below (R.bel)
  have hpc2 := h4.2.1.below hbel2 h4.2.1.lt
  have hbc2 := h4.2.2.1.below hbel2 h4.2.2.1.lt
  have hcv2 := hcv.below hbel2 hcv.lt
  have hord2 : Row w2 o 70 [.slice (some ⟨cb, 0, none⟩) n n, .slice (some ⟨bcl, 0, none⟩) nb nb, .int .i64 (wd : Int), tallyFn ca (ca + 1) wg.heap.size] := by
    unfold Row; rw [Q.same o (by omega) (by omega) (by omega) (by omega)]; exact R.ord
  have hwd5 : wd ≤ 5 := by omega
  have hwd1 : 0 < wd := by omega
  obtain ⟨ma, ml', hC, hmns⟩ : ∃ ma ml', Calls Ybad.prog 16 #[.pointer (some ⟨o, 0, none⟩), .pointer (some ⟨wg.heap.size, 0, none⟩), .int .i64 (k : Int)] w2 (fun e w' => e = .returned (.slice ma ml' ml') ∧ ∃ q, w' = w2.drewN q) ∧ ((ma = none ∧ ∀ c, inChunk (fun i => bitOf P i && bitOf M i) n c = 0) ∨ ∃ cg, ma = some ⟨cg, k * wd, none⟩ ∧ ml' = wd ∧ ∀ c, 1 + c < wd → w2.cell? ⟨cg, k * wd + (1 + c), none⟩ = some (.int .i32 (inChunk (fun i => bitOf P i && bitOf M i) n c : Int))) := by
    cases us with
    | true =>
      refine ⟨none, 0, ?_, Or.inl ⟨rfl, fun c => inChunk_none (hus rfl) n c⟩⟩
      have hLk : L < (k + 1) * wd := by rw [hL, hD, cond_true, Nat.succ_mul]; omega
      refine (countIn_nil o wg.heap.size k wd cg L w2 hk2 hwd5 hLk (hord2.cell 2 _ rfl) Q.ta1).mono ?_
      rintro e w' ⟨rfl, rfl⟩
      exact ⟨rfl, 0, rfl⟩
    | false =>
      have hLk : L = (k + 1) * wd := by rw [hL, hD, cond_false, Nat.succ_mul]
      refine ⟨some ⟨cg, k * wd, none⟩, wd, ?_, Or.inr ⟨cg, rfl, rfl, fun c hc => ?_⟩⟩
      · have h1 := Q.ta1
        rw [hLk] at h1
        exact countIn_some o wg.heap.size k wd cg w2 hk2 hwd5 hwd1 (hord2.cell 2 _ rfl) h1
      · refine hcv2.cell _ _ ?_
        have hlt2 : k * wd + (1 + c) < L := by rw [hLk, Nat.succ_mul]; omega
        unfold cvals
        rw [fill_get _ _ hlt2, if_neg (by omega), show k * wd + (1 + c) - D = 1 + c by omega]
        unfold cntRow
        rw [if_neg (by omega), Nat.add_sub_cancel_left]
  have hbks := hbk2
  obtain ⟨xs, x1, x2, x3⟩ := hbks
  obtain ⟨x4, x5⟩ := x3 hkn
  have RR : Reads w2 o wg.heap.size wz.heap.size w.heap.size bc mk n W wd k P M (inChunk (bitOf P) n) (inChunk (fun i => bitOf P i && bitOf M i) n) ma ml' := {
    o2 := hord2.cell 2 _ rfl
    b0 := Q.b0
    b1 := Q.b1
    t0 := Q.ta0
    pcs := fun i hi => hpc2.cell i _ (fill_get _ _ hi)
    mks := fun i hi => Q.mks i _ (fill_get _ _ hi)
    bcs := fun c hc => by
      refine hbc2.cell (1 + c) _ ?_
      unfold crow
      rw [fill_get _ _ hc]
      unfold cntRow
      rw [if_neg (by omega), Nat.add_sub_cancel_left]
    mns := hmns
    tab := hT.below (h4.2.2.2.2.2.2.trans (hbel2.mono h4.2.2.2.2.2.2.size)) hw0
    hP := hP
    hM := hM
    hfb := fun c => Nat.le_trans (inChunk_le _ _ _) (by omega)
    hfm := fun c => inChunk_sub _ _ _ _
    hn := by omega
    hW := hW
    hwd := hwd }
  refine (nth_core o wg.heap.size bcl nb k w.heap.size bc mk n W wd J P M (inChunk (bitOf P) n) (inChunk (fun i => bitOf P i && bitOf M i) n) ma ml' marked p wz w2 hkn (R.ord.cell 1 _ rfl) (x1.cell _ _ x4) (x1.cell _ _ x5) hTo hC RR hJ
    (fun i hi => by rw [fit_bit P M hM, hpast i hi]; rfl) (fun c _ => by rw [fit_fn P M hM]; exact fit_chunk (bitOf P) (bitOf M) n hpast marked c)).mono ?_
  rintro e w' ⟨r, rfl, hf, q, rfl⟩
  rw [fit_fn P M hM] at hf
  have hcopy : ∀ g, wg.heap.size < g → g < ca → (w2.drewN q).heap[g]? = wz.heap[g]? := fun g h1 h2 => Q.same g (by omega) (by omega) (by omega) (by omega)
  refine ⟨r, rfl, hf, {
    bel := ⟨hbel2.os, hbel2.tape, hbel2.output, hbel2.size, hbel2.block⟩
    ta1 := Q.ta1
    ta0 := ⟨mk, Q.ta0, Q.mks⟩
    cP := R.cP.same hcopy
    cB := R.cB.same hcopy
    cC := R.cC.same hcopy
    cM := by
      rcases R.cM with h | ⟨h, h'⟩
      · exact Or.inl h
      · exact Or.inr ⟨h, h'.same hcopy⟩
    calls := Q.calls
    seen := Q.seen
    o1 := hord2.cell 1 _ rfl }⟩

theorem nth_ready (w wg wz : World) (n W wd nb k D L J : Nat) (P M : Nat → Nat) (z3 : List Int) (mo : Option Addr) (ml bc mc bcl cg ca o cb : Nat) (p : Option Addr) (marked us : Bool) (vP vB vC vM : Value)
    (h4 : At4 w wg n W wd P M z3 mo ml bc mc) (hbk : Buckets wg bcl nb k nb w.heap.size W bc wd) (hcv : Row wg cg 21 (cvals D L (cntRow (fun i => bitOf P i && bitOf M i) n)))
    (R : Ready wg wz n W wd nb D L P M mo ml bcl cg ca o cb vP vB vC vM)
    (hD : D = k * wd) (hL : L = (bif us then D else D + wd)) (hus : us = true → ∀ i, (bitOf P i && bitOf M i) = false) (hM0 : mo = none → ∀ i, M i = 0)
    (hP : ∀ i, P i < 18446744073709551616) (hM : ∀ i, M i < 18446744073709551616) (hpast : ∀ i, n ≤ i → bitOf P i = false) (hT : Tab w) (hw0 : 0 < w.heap.size) (hn : n < 6200) (hW : W = (n + 63) / 64) (hwd : wd = 1 + (n + 2047) / 2048) (hk2 : k ≤ 2) (hkn : k < nb) (hJ : J ≤ 6210) :
    Calls Ybad.prog 11 #[.pointer (some ⟨o, 0, none⟩), .pointer p, .int .i64 (k : Int), .int .i64 (J : Int), .bool marked] wz fun e w' => ∃ r : Int, e = .returned (.int .i64 r) ∧ Found (fun i => bitOf P i && (bitOf M i == marked)) n J r ∧ Done wg w' n W wd nb D L P M mo bcl cg ca o p vP vB vC vM := by
  have hgz : wg.heap.size ≤ wz.heap.size := R.bel.size
  have hlt := R.lt
  have hlo := R.lo
  have hca := R.calls.lt
  have hse := R.seen.lt
  have hol := R.ord.lt
  obtain ⟨w1, hw1⟩ : ∃ w1, w1 = wz.alloc (.cells #[.slice (some ⟨w.heap.size, 0, none⟩) W W, .slice (some ⟨bc, 0, none⟩) wd wd] 33) := ⟨_, rfl⟩
  have hs1 : w1.heap.size = wz.heap.size + 1 := by rw [hw1]; simp
  have ord1 := R.ord.alloc (.cells #[.slice (some ⟨w.heap.size, 0, none⟩) W W, .slice (some ⟨bc, 0, none⟩) wd wd] 33)
  have ca1 := R.calls.alloc (.cells #[.slice (some ⟨w.heap.size, 0, none⟩) W W, .slice (some ⟨bc, 0, none⟩) wd wd] 33)
  have se1 := R.seen.alloc (.cells #[.slice (some ⟨w.heap.size, 0, none⟩) W W, .slice (some ⟨bc, 0, none⟩) wd wd] 33)
  have ta1 := R.tal.alloc (.cells #[.slice (some ⟨w.heap.size, 0, none⟩) W W, .slice (some ⟨bc, 0, none⟩) wd wd] 33)
  have bb1 := Row.new wz 33 #[.slice (some ⟨w.heap.size, 0, none⟩) W W, .slice (some ⟨bc, 0, none⟩) wd wd]
  have same1 : ∀ g, g < wz.heap.size → w1.heap[g]? = wz.heap[g]? := fun g hg => by rw [hw1]; exact Below.heap_alloc _ _ _ hg
  rw [← hw1] at ord1 ca1 se1 ta1 bb1
  have os1 : w1.os = wz.os := by rw [hw1]; rfl
  have tp1 : w1.tape = wz.tape := by rw [hw1]; rfl
  have ou1 : w1.output = wz.output := by rw [hw1]; rfl
  rcases h4.1 with ⟨z0, hmo, hml⟩ | ⟨z0, hml, g, hg, hmo, hrm⟩
  · have hM00 := hM0 hmo
    have hto := tallyOf_nil o cb n ca (ca + 1) wg.heap.size W p none 0 w1 (by omega) hW.symm (ord1.cell 3 _ rfl) (ord1.cell 0 _ rfl) (ca1.cell 0 _ rfl) (ca1.frozen 0) (se1.cell 0 _ rfl) (se1.frozen 0) (by omega) (by omega) (by have := ta1.cell 0 _ rfl; rw [hmo, hml] at this; exact this) (ta1.frozen 0) (by omega) (by omega) (by omega) (by omega) (by omega)
    obtain ⟨w2, hw2⟩ : ∃ w2, w2 = (((w1.setCell ⟨ca, 0, none⟩ (.int .i64 (((0 : Nat) : Int) + 1))).setCell ⟨ca + 1, 0, none⟩ (.pointer p)).setCell ⟨wg.heap.size, 0, none⟩ (.slice (some ⟨w1.heap.size, 0, none⟩) W W)).alloc (.cells (madeCells #[.int .u64 0] W) 26) := ⟨_, rfl⟩
    rw [← hw2, hw1] at hto
    refine nth_after w wg wz w2 n W wd nb k D L J P M z3 mo ml bc mc bcl cg ca o cb w1.heap.size p marked us vP vB vC vM h4 hbk hcv R hD hL hus hP hM hpast hT hw0 hn hW hwd hk2 hkn hJ hto ?_
    have c2 := ((((ca1.setCell 0 (.int .i64 (((0 : Nat) : Int) + 1))).setOther ⟨ca + 1, 0, none⟩ (.pointer p) (by simp)).setOther ⟨wg.heap.size, 0, none⟩ (.slice (some ⟨w1.heap.size, 0, none⟩) W W) (by simp; omega)).alloc (.cells (madeCells #[.int .u64 0] W) 26))
    have s2 := ((((se1.setOther ⟨ca, 0, none⟩ (.int .i64 (((0 : Nat) : Int) + 1)) (by simp)).setCell 0 (.pointer p)).setOther ⟨wg.heap.size, 0, none⟩ (.slice (some ⟨w1.heap.size, 0, none⟩) W W) (by simp; omega)).alloc (.cells (madeCells #[.int .u64 0] W) 26))
    have t2 := ((((ta1.setOther ⟨ca, 0, none⟩ (.int .i64 (((0 : Nat) : Int) + 1)) (by simp; omega)).setOther ⟨ca + 1, 0, none⟩ (.pointer p) (by simp; omega)).setCell 0 (.slice (some ⟨w1.heap.size, 0, none⟩) W W)).alloc (.cells (madeCells #[.int .u64 0] W) 26))
    have b2 := ((((bb1.setOther ⟨ca, 0, none⟩ (.int .i64 (((0 : Nat) : Int) + 1)) (by simp; omega)).setOther ⟨ca + 1, 0, none⟩ (.pointer p) (by simp; omega)).setOther ⟨wg.heap.size, 0, none⟩ (.slice (some ⟨w1.heap.size, 0, none⟩) W W) (by simp; omega)).alloc (.cells (madeCells #[.int .u64 0] W) 26))
    have m2 := Row.made (((w1.setCell ⟨ca, 0, none⟩ (.int .i64 (((0 : Nat) : Int) + 1))).setCell ⟨ca + 1, 0, none⟩ (.pointer p)).setCell ⟨wg.heap.size, 0, none⟩ (.slice (some ⟨w1.heap.size, 0, none⟩) W W)) 26 .u64 W
    rw [← hw2] at c2 s2 t2 b2 m2
    rw [show (((w1.setCell ⟨ca, 0, none⟩ (.int .i64 (((0 : Nat) : Int) + 1))).setCell ⟨ca + 1, 0, none⟩ (.pointer p)).setCell ⟨wg.heap.size, 0, none⟩ (.slice (some ⟨w1.heap.size, 0, none⟩) W W)).heap.size = w1.heap.size by simp [World.setCell]] at m2
    exact {
      same := fun g h1 h2 h3 h5 => by
        rw [hw2, Below.heap_alloc _ _ _ (by simp [World.setCell]; omega), Below.heap_setCell _ _ _ _ h2, Below.heap_setCell _ _ _ _ h5, Below.heap_setCell _ _ _ _ h3]
        exact same1 g h1
      big := by rw [hw2]; simp [World.setCell]; omega
      os := by rw [hw2]; exact os1
      tape := by rw [hw2]; exact tp1
      output := by rw [hw2]; exact ou1
      calls := c2.cell 0 _ rfl
      seen := s2.cell 0 _ rfl
      ta0 := t2.cell 0 _ rfl
      ta1 := t2.cell 1 _ rfl
      mks := by
        have e : fill W .u64 (fun j => (M j : Int)) = fill W .u64 (fun _ => 0) := fill_congr (fun j _ => by rw [hM00 j]; rfl)
        rw [e]; exact m2.held
      b0 := b2.cell 0 _ rfl
      b1 := b2.cell 1 _ rfl }
  · have hto := tallyOf_some o ca (ca + 1) wg.heap.size g W p none 0 w1 (ord1.cell 3 _ rfl) (ca1.cell 0 _ rfl) (ca1.frozen 0) (se1.cell 0 _ rfl) (se1.frozen 0) (by omega) (by omega) (by have := ta1.cell 0 _ rfl; rw [hmo, hml] at this; exact this) (by omega) (by omega)
    obtain ⟨w2, hw2⟩ : ∃ w2, w2 = (w1.setCell ⟨ca, 0, none⟩ (.int .i64 (((0 : Nat) : Int) + 1))).setCell ⟨ca + 1, 0, none⟩ (.pointer p) := ⟨_, rfl⟩
    rw [← hw2, hw1] at hto
    refine nth_after w wg wz w2 n W wd nb k D L J P M z3 mo ml bc mc bcl cg ca o cb g p marked us vP vB vC vM h4 hbk hcv R hD hL hus hP hM hpast hT hw0 hn hW hwd hk2 hkn hJ hto ?_
    have c2 := ((ca1.setCell 0 (.int .i64 (((0 : Nat) : Int) + 1))).setOther ⟨ca + 1, 0, none⟩ (.pointer p) (by simp))
    have s2 := ((se1.setOther ⟨ca, 0, none⟩ (.int .i64 (((0 : Nat) : Int) + 1)) (by simp)).setCell 0 (.pointer p))
    have t2 := ((ta1.setOther ⟨ca, 0, none⟩ (.int .i64 (((0 : Nat) : Int) + 1)) (by simp; omega)).setOther ⟨ca + 1, 0, none⟩ (.pointer p) (by simp; omega))
    have b2 := ((bb1.setOther ⟨ca, 0, none⟩ (.int .i64 (((0 : Nat) : Int) + 1)) (by simp; omega)).setOther ⟨ca + 1, 0, none⟩ (.pointer p) (by simp; omega))
    rw [← hw2] at c2 s2 t2 b2
    have same2 : ∀ g, g < wz.heap.size → g ≠ wg.heap.size → g ≠ ca → g ≠ ca + 1 → w2.heap[g]? = wz.heap[g]? := fun g h1 h2 h3 h5 => by
      rw [hw2, Below.heap_setCell _ _ _ _ h5, Below.heap_setCell _ _ _ _ h3]
      exact same1 g h1
    exact {
      same := same2
      big := by rw [hw2]; simp [World.setCell]; omega
      os := by rw [hw2]; exact os1
      tape := by rw [hw2]; exact tp1
      output := by rw [hw2]; exact ou1
      calls := c2.cell 0 _ rfl
      seen := s2.cell 0 _ rfl
      ta0 := by have := t2.cell 0 _ rfl; rw [hmo, hml] at this; exact this
      ta1 := t2.cell 1 _ rfl
      mks := (hrm.held).same ((same2 g (by have := hrm.lt; omega) (by have := hrm.lt; omega) (by have := hrm.lt; omega) (by have := hrm.lt; omega)).trans (R.bel.block g hrm.lt))
      b0 := b2.cell 0 _ rfl
      b1 := b2.cell 1 _ rfl }
end Go.Proofs.YbulkehayDoor
