/- LawS6660CWhole: the table that the law lays: worlds that differ at named places only, the table, its buckets. -/
import Derived.Test.YbulkegxeOps
namespace Go.Proofs.Ybulkegxe
open Go.RowKit Go.Lib
set_option linter.unusedVariables false

/-- as W was, but at T; block x may be lost -/
structure Off (x : Nat) (T : Nat → Nat → Prop) (W W' : World) : Prop where
  cell : ∀ b o, b < W.heap.size → ¬ T b o → W'.cell? ⟨b, o, none⟩ = W.cell? ⟨b, o, none⟩
  frz : ∀ b o, b < W.heap.size → ¬ T b o → W'.frozen? ⟨b, o, none⟩ = W.frozen? ⟨b, o, none⟩
  there : ∀ b o n, b < W.heap.size → b ≠ x → W.there b o n → W'.there b o n
  blk : ∀ b, b < W.heap.size → (∀ o, ¬ T b o) → W'.heap[b]? = W.heap[b]?
  sz : W.heap.size ≤ W'.heap.size
  os : W'.os = W.os
  tape : W'.tape = W.tape
  output : W'.output = W.output
theorem Off.ofBelow {x : Nat} {T : Nat → Nat → Prop} {W W' : World} (h : Below W.heap.size W W') : Off x T W W' :=
  ⟨fun b o hb _ => h.cell (p := ⟨b, o, none⟩) hb, fun b o hb _ => h.frozen (p := ⟨b, o, none⟩) hb, fun b o n hb _ ht => there_below ht h hb, fun b hb _ => h.block b hb, h.size, h.os, h.tape, h.output⟩
theorem Off.trans {x : Nat} {T : Nat → Nat → Prop} {W W1 W2 : World} (h : Off x T W W1) (g : Off x T W1 W2) : Off x T W W2 :=
  have hs := h.sz
  ⟨fun b o hb ht => (g.cell b o (by omega) ht).trans (h.cell b o hb ht), fun b o hb ht => (g.frz b o (by omega) ht).trans (h.frz b o hb ht), fun b o n hb hx ht => g.there b o n (by omega) hx (h.there b o n hb hx ht), fun b hb ht => (g.blk b (by omega) ht).trans (h.blk b hb ht), Nat.le_trans h.sz g.sz, g.os.trans h.os, g.tape.trans h.tape, g.output.trans h.output⟩
theorem Off.mono {x : Nat} {T T' : Nat → Nat → Prop} {W W' : World} (h : Off x T W W') (ht : ∀ b o, T b o → T' b o) : Off x T' W W' :=
  ⟨fun b o hb hn => h.cell b o hb (fun q => hn (ht b o q)), fun b o hb hn => h.frz b o hb (fun q => hn (ht b o q)), h.there, fun b hb hn => h.blk b hb (fun o q => hn o (ht b o q)), h.sz, h.os, h.tape, h.output⟩
theorem Off.alloc {x : Nat} {T : Nat → Nat → Prop} (W : World) (o : Obj) : Off x T W (W.alloc o) := Off.ofBelow ((Below.refl _ _).alloc (Nat.le_refl _) _)
theorem heap_setCells (g : Nat) : ∀ (vs : List Value) (o : Nat) (w : World) (b : Nat), b ≠ g → (w.setCells g o vs).heap[b]? = w.heap[b]?
  | [], _, _, _, _ => rfl
  | v :: r, o, w, b, h => by
    rw [World.setCells, heap_setCells g r _ _ b h, Below.heap_setCell _ _ _ _ h]
theorem same_setCells (g : Nat) : ∀ (vs : List Value) (o : Nat) (w : World), (w.setCells g o vs).os = w.os ∧ (w.setCells g o vs).tape = w.tape ∧ (w.setCells g o vs).output = w.output
  | [], _, _ => ⟨rfl, rfl, rfl⟩
  | v :: r, o, w => same_setCells g r _ _
theorem Off.setCells (x g o : Nat) (vs : List Value) (W : World) : Off x (fun b p => b = g ∧ o ≤ p ∧ p < o + vs.length) W (W.setCells g o vs) := by
  refine ⟨fun b p hb ht => ?_, fun b p _ _ => World.frozen?_setCells g vs o W _, fun b p n _ _ ht => World.there_setCells ht _ _ _, fun b hb ht => ?_, by rw [size_setCells]; exact Nat.le_refl _, (same_setCells g vs o W).1, (same_setCells g vs o W).2.1, (same_setCells g vs o W).2.2⟩
  · refine cell_setCells ?_
    by_cases e : b = g
    · by_cases e1 : p < o
      · exact Or.inr (Or.inl e1)
      · by_cases e2 : o + vs.length ≤ p
        · exact Or.inr (Or.inr e2)
        · exact absurd ⟨e, by omega, by omega⟩ ht
    · exact Or.inl e
  · by_cases e : b = g
    · match vs, ht with
      | [], _ => rfl
      | v :: r, ht => exact absurd ⟨e, Nat.le_refl _, by simp⟩ (ht o)
    · exact heap_setCells g vs o W b e
theorem Off.setCell (x g o : Nat) (v : Value) (W : World) : Off x (fun b p => b = g ∧ p = o) W (W.setCell ⟨g, o, none⟩ v) :=
  (Off.setCells x g o [v] W).mono (fun b p ⟨h1, h2, h3⟩ => ⟨h1, by simp at h3; omega⟩)
theorem Off.range {x : Nat} {T : Nat → Nat → Prop} {W W' : World} (h : Off x T W W') {g o : Nat} {cs : List Value} (hr : W.rangeAt g o cs) (hg : g < W.heap.size) (ht : ∀ j, j < cs.length → ¬ T g (o + j)) : W'.rangeAt g o cs := by
  intro j v hj
  rw [h.cell g (o + j) hg (ht j (List.getElem?_eq_some_iff.1 hj).1)]
  exact hr j v hj
theorem Off.below {x : Nat} {T : Nat → Nat → Prop} {W W' : World} (h : Off x T W W') {N : Nat} (hN : N ≤ W.heap.size) (ht : ∀ b o, b < N → ¬ T b o) : Below N W W' :=
  ⟨h.os, h.tape, h.output, h.sz, fun b hb => h.blk b (Nat.lt_of_lt_of_le hb hN) (fun o => ht b o hb)⟩

/-- where the table lies -/
structure Geo where
  l : Nat
  eb : Nat
  tb : Nat
  B : Nat
  O : Nat
  d : Nat
  cap : Nat
  wl : Nat
  N : Nat
  ex : Int

/-- the places that the loops write -/
def Geo.Mine (G : Geo) (b o : Nat) : Prop := (b = G.B ∧ G.O ≤ o ∧ o < G.O + G.d * 49) ∨ G.N ≤ b

structure Tab (w W : World) (sf k : List Nat) (n : Nat) (L : List Ent) (G : Geo) : Prop where
  lay : Lay1 w W sf k n L L L L L
  slf : KeyAt W G.tb 0 sf
  c32 : W.cell? ⟨G.tb, 32, none⟩ = some (.iface 65 (.pointer (some ⟨G.l, 0, none⟩)))
  c34 : W.cell? ⟨G.tb, 34, none⟩ = some (.slice (some ⟨G.B, G.O, none⟩) G.d G.cap)
  e0 : W.cell? ⟨G.tb, 41, none⟩ = some (.int .u64 (G.wl : Int))
  e1 : W.cell? ⟨G.tb, 42, none⟩ = some (.int .i64 G.ex)
  e2 : W.cell? ⟨G.tb, 43, none⟩ = some (.pointer none)
  p0 : W.cell? ⟨G.eb, 0, none⟩ = some (.int .u64 (G.wl : Int))
  p1 : W.cell? ⟨G.eb, 1, none⟩ = some (.int .i64 G.ex)
  p2 : W.cell? ⟨G.eb, 2, none⟩ = some (.pointer none)
  tBk : W.there G.B G.O (G.d * 49)
  ge : w.heap.size + 8 ≤ G.l ∧ w.heap.size + 8 ≤ G.eb ∧ w.heap.size + 8 ≤ G.tb ∧ w.heap.size + 8 ≤ G.B
  ne : G.l ≠ G.eb ∧ G.l ≠ G.tb ∧ G.l ≠ G.B ∧ G.eb ≠ G.B
  lt : G.l < G.N ∧ G.eb < G.N ∧ G.tb < G.N ∧ G.B < G.N ∧ G.N ≤ W.heap.size
  near : G.d ≤ 24 → G.B = G.tb ∧ G.O = 53
  over : G.B = G.tb → 53 ≤ G.O
  d2 : G.d ≤ 257
  dd : G.d = depthE L
  wlt : G.wl < 1000000000
theorem Tab.off {w W W' : World} {sf k : List Nat} {n : Nat} {L : List Ent} {G : Geo} (h : Tab w W sf k n L G) {T : Nat → Nat → Prop} (g : Off G.l T W W') (ht : ∀ b o, T b o → G.Mine b o ∨ b = G.l) (hs : sf.length = 32) : Tab w W' sf k n L G := by
  obtain ⟨a1, a2, a3, a4⟩ := h.ge
  obtain ⟨n1, n2, n3, n4⟩ := h.ne
  obtain ⟨l1, l2, l3, l4, l5⟩ := h.lt
  have ov := h.over
  have hz := g.sz
  have hb : Below (w.heap.size + 8) W W' := g.below (by omega) (fun b o hbn hT => by
    rcases ht b o hT with (⟨h1, _⟩ | h1) | h1 <;> omega)
  have ht1 : ∀ o, o < 53 → ¬ T G.tb o := fun o ho hT => by
    rcases ht _ _ hT with (⟨h1, h2, _⟩ | h1) | h1
    · have := ov h1.symm; omega
    · omega
    · omega
  have he1 : ∀ o, ¬ T G.eb o := fun o hT => by
    rcases ht _ _ hT with (⟨h1, h2, _⟩ | h1) | h1 <;> omega
  exact {
    lay := h.lay.keep hb
    slf := g.range h.slf (by omega) (fun j hj => by
      rw [Array.length_toList, kcells_size, hs] at hj
      exact ht1 _ (by omega))
    c32 := (g.cell _ _ (by omega) (ht1 _ (by omega))).trans h.c32
    c34 := (g.cell _ _ (by omega) (ht1 _ (by omega))).trans h.c34
    e0 := (g.cell _ _ (by omega) (ht1 _ (by omega))).trans h.e0
    e1 := (g.cell _ _ (by omega) (ht1 _ (by omega))).trans h.e1
    e2 := (g.cell _ _ (by omega) (ht1 _ (by omega))).trans h.e2
    p0 := (g.cell _ _ (by omega) (he1 _)).trans h.p0
    p1 := (g.cell _ _ (by omega) (he1 _)).trans h.p1
    p2 := (g.cell _ _ (by omega) (he1 _)).trans h.p2
    tBk := g.there _ _ _ (by omega) (by omega) h.tBk
    ge := h.ge
    ne := h.ne
    lt := ⟨l1, l2, l3, l4, by omega⟩
    near := h.near
    over := h.over
    d2 := h.d2
    dd := h.dd
    wlt := h.wlt }

/-- the lock -/
structure Lk (W : World) (l : Nat) : Prop where
  l0 : W.cell? ⟨l, 0, none⟩ = some (.int .i64 0)
  l1 : W.cell? ⟨l, 1, none⟩ = some (.int .i64 0)
  f0 : W.frozen? ⟨l, 0, none⟩ = false
  f1 : W.frozen? ⟨l, 1, none⟩ = false
theorem Lk.off {W W' : World} {l x : Nat} (h : Lk W l) {T : Nat → Nat → Prop} (g : Off x T W W') (hl : l < W.heap.size) (ht : ∀ o, ¬ T l o) : Lk W' l :=
  ⟨(g.cell _ _ hl (ht _)).trans h.l0, (g.cell _ _ hl (ht _)).trans h.l1, (g.frz _ _ hl (ht _)).trans h.f0, (g.frz _ _ hl (ht _)).trans h.f1⟩

def headV (e : Ent) : Value := .int .u64 ((beN (e.key.take 8) : Nat) : Int)

/-- one bucket: room for c entries -/
structure Bk (W : World) (G : Geo) (own : Bool) (b c : Nat) (R K H O : List Ent) : Prop where
  c2 : W.cell? ⟨G.B, G.O + b * 49 + 2, none⟩ = some (.bool own)
  c3 : W.cell? ⟨G.B, G.O + b * 49 + 3, none⟩ = some (.slice (some ⟨G.N + 3 * b, 0, none⟩) R.length c)
  c4 : W.cell? ⟨G.B, G.O + b * 49 + 4, none⟩ = some (.slice (some ⟨G.N + 3 * b + 1, 0, none⟩) K.length c)
  c5 : W.cell? ⟨G.B, G.O + b * 49 + 5, none⟩ = some (.slice (some ⟨G.N + 3 * b + 2, 0, none⟩) H.length c)
  tR : W.there (G.N + 3 * b) 0 (c * 8)
  tK : W.there (G.N + 3 * b + 1) 0 (c * 32)
  tH : W.there (G.N + 3 * b + 2) 0 (c * 1)
  recs : ∀ i e, R[i]? = some e → RecAt W (G.N + 3 * b) (i * 8) e.rc
  keys : ∀ i e, K[i]? = some e → KeyAt W (G.N + 3 * b + 1) (i * 32) e.key
  heads : ∀ i e, H[i]? = some e → W.cell? ⟨G.N + 3 * b + 2, i, none⟩ = some (headV e)
  owns : own = true → ∀ i e, O[i]? = some e → W.cell? ⟨G.B, G.O + b * 49 + 9 + i, none⟩ = some (headV e)
theorem Bk.off {W W' : World} {G : Geo} {own : Bool} {b c x : Nat} {R K H O : List Ent} (h : Bk W G own b c R K H O) {T : Nat → Nat → Prop} (g : Off x T W W') (hB : G.B < W.heap.size) (hN : G.N + 3 * b + 2 < W.heap.size) (hx : x < G.N)
    (h1 : ∀ o, o < 49 → ¬ T G.B (G.O + b * 49 + o)) (h2 : ∀ i o, i < 3 → ¬ T (G.N + 3 * b + i) o) (ho : own = true → O.length ≤ 40) : Bk W' G own b c R K H O where
  c2 := (g.cell _ _ hB (h1 2 (by omega))).trans h.c2
  c3 := (g.cell _ _ hB (h1 3 (by omega))).trans h.c3
  c4 := (g.cell _ _ hB (h1 4 (by omega))).trans h.c4
  c5 := (g.cell _ _ hB (h1 5 (by omega))).trans h.c5
  tR := g.there _ _ _ (by omega) (by omega) h.tR
  tK := g.there _ _ _ (by omega) (by omega) h.tK
  tH := g.there _ _ _ (by omega) (by omega) h.tH
  recs := fun i e he => g.range (h.recs i e he) (by omega) (fun j _ => h2 0 _ (by omega))
  keys := fun i e he => g.range (h.keys i e he) (by omega) (fun j _ => h2 1 _ (by omega))
  heads := fun i e he => (g.cell _ _ (by omega) (h2 2 _ (by omega))).trans (h.heads i e he)
  owns := fun hw i e he => by
    have := ho hw
    have hi := (List.getElem?_eq_some_iff.1 he).1
    have := h1 (9 + i) (by omega)
    rw [← Nat.add_assoc] at this
    exact (g.cell _ _ hB this).trans (h.owns hw i e he)

/-- the table with its first m buckets -/
structure Full (w W : World) (sf k : List Nat) (n : Nat) (L : List Ent) (own lv : Bool) (G : Geo) (m : Nat) (LR LK LH LO : List Ent) : Prop where
  tab : Tab w W sf k n L G
  bk : ∀ b, b < m → Bk W G own b (inB b L).length (inB b LR) (inB b LK) (inB b LH) (inB b LO)
  md : m ≤ G.d
  sz : G.N + 3 * m ≤ W.heap.size
  few : own = true → ∀ b, (inB b LO).length ≤ 20
  hs : sf.length = 32
  lk : lv = true → Lk W G.l

theorem Full.keep {w W W' : World} {sf k : List Nat} {n : Nat} {L : List Ent} {own lv : Bool} {G : Geo} {m : Nat} {LR LK LH LO : List Ent} (h : Full w W sf k n L own lv G m LR LK LH LO) (hb : Below W.heap.size W W') : Full w W' sf k n L own lv G m LR LK LH LO := by
  have g : Off G.l (fun b o => o + 1 ≤ o) W W' := Off.ofBelow hb
  have := h.sz
  have := h.tab.lt
  exact ⟨h.tab.off g (fun b o hh => absurd hh (by omega)) h.hs, fun b hbm => (h.bk b hbm).off g (by omega) (by omega) (by omega) (fun o _ => by omega) (fun i o _ => by omega) (fun hw => by have := h.few hw b; omega), h.md, Nat.le_trans h.sz hb.size, h.few, h.hs, fun hv => (h.lk hv).off g (by omega) (fun o => by omega)⟩

theorem inB_self (e : Ent) (L : List Ent) : inB e.b (L ++ [e]) = inB e.b L ++ [e] := by rw [inB_append]; congr 1; unfold inB; simp
theorem inB_other {b : Nat} {e : Ent} (L : List Ent) (h : b ≠ e.b) : inB b (L ++ [e]) = inB b L := by
  rw [inB_append]
  have : inB b [e] = [] := by unfold inB; simp; omega
  rw [this, List.append_nil]
theorem mul49 {b m : Nat} (h : b < m) : b * 49 + 49 ≤ m * 49 := by omega

theorem cell_set {w : World} {a : Addr} {u v : Value} (h : w.cell? a = some u) : (w.setCell a v).cell? a = some v := by
  have hs := World.cell?_spot h
  obtain ⟨b, o, sp⟩ := a
  simp only at hs
  subst hs
  simp only [World.cell?, World.setCell, Array.getElem?_modify] at h ⊢
  cases hq : w.heap[b]? with
  | none => rw [hq] at h; cases h
  | some ob =>
    rw [hq] at h
    cases ob with
    | cells cs t fr =>
      have h0 : o < cs.size := (Array.getElem?_eq_some_iff.1 (show cs[o]? = some u from h)).1
      simp [h0]
    | _ => cases h
theorem Full.touch {w W W' : World} {sf k : List Nat} {n : Nat} {L : List Ent} {own lv : Bool} {G : Geo} {m : Nat} {LR LK LH LO : List Ent} (h : Full w W sf k n L own lv G m LR LK LH LO) (b : Nat) (hb : b < m) {T : Nat → Nat → Prop} (g : Off G.l T W W')
    (hT : ∀ x o, T x o → (x = G.B ∧ G.O + b * 49 ≤ o ∧ o < G.O + b * 49 + 49) ∨ (G.N + 3 * b ≤ x ∧ x < G.N + 3 * b + 3)) (LR' LK' LH' LO' : List Ent) (hR : ∀ b', b' ≠ b → inB b' LR' = inB b' LR) (hK : ∀ b', b' ≠ b → inB b' LK' = inB b' LK) (hH : ∀ b', b' ≠ b → inB b' LH' = inB b' LH) (hO : ∀ b', b' ≠ b → inB b' LO' = inB b' LO)
    (few : own = true → ∀ b, (inB b LO').length ≤ 20) (hbk : Bk W' G own b (inB b L).length (inB b LR') (inB b LK') (inB b LH') (inB b LO')) : Full w W' sf k n L own lv G m LR' LK' LH' LO' := by
  obtain ⟨l1, l2, l3, l4, l5⟩ := h.tab.lt
  have hz := h.sz
  have hd := h.md
  have hdb : b * 49 + 49 ≤ G.d * 49 := by omega
  refine ⟨h.tab.off g (fun x o hx => ?_) h.hs, fun b' hb' => ?_, h.md, Nat.le_trans h.sz g.sz, few, h.hs, fun hv => (h.lk hv).off g (by omega) (fun o hx => by have := h.tab.ne; have := hT _ _ hx; omega)⟩
  · rcases hT x o hx with ⟨h1, h2, h3⟩ | ⟨h1, h2⟩
    · exact Or.inl (Or.inl ⟨h1, by omega, by omega⟩)
    · exact Or.inl (Or.inr (by omega))
  · by_cases e : b' = b
    · rw [e]; exact hbk
    · rw [hR b' e, hK b' e, hH b' e, hO b' e]
      refine (h.bk b' hb').off g (by omega) (by omega) l1 (fun o ho hx => ?_) (fun i o hi hx => ?_) (fun hw => by have := h.few hw b'; omega)
      · rcases hT _ _ hx with ⟨h1, h2, h3⟩ | ⟨h1, h2⟩ <;> omega
      · rcases hT _ _ hx with ⟨h1, h2, h3⟩ | ⟨h1, h2⟩ <;> omega

theorem len_self (e : Ent) (L : List Ent) : (inB e.b (L ++ [e])).length = (inB e.b L).length + 1 := by rw [inB_self]; simp

theorem Full.putR {w W : World} {sf k : List Nat} {n : Nat} {L : List Ent} {own lv : Bool} {G : Geo} {m : Nat} {LR LK LH LO : List Ent} (h : Full w W sf k n L own lv G m LR LK LH LO) (e : Ent) (hb : e.b < m) (hlt : (inB e.b LR).length + 1 ≤ (inB e.b L).length) :
    Full w ((W.setCells (G.N + 3 * e.b) ((inB e.b LR).length * 8) (recC e.rc).toList).setCell ⟨G.B, G.O + e.b * 49 + 3, none⟩ (.slice (some ⟨G.N + 3 * e.b, 0, none⟩) ((inB e.b LR).length + 1) (inB e.b L).length)) sf k n L own lv G m (LR ++ [e]) LK LH LO := by
  obtain ⟨l1, l2, l3, l4, l5⟩ := h.tab.lt
  have hz := h.sz
  have hB := h.bk e.b hb
  have hl : ((recC e.rc).toList).length = 8 := rfl
  have g1 := Off.setCells G.l (G.N + 3 * e.b) ((inB e.b LR).length * 8) (recC e.rc).toList W
  obtain ⟨W1, hW1⟩ : ∃ x, x = W.setCells (G.N + 3 * e.b) ((inB e.b LR).length * 8) (recC e.rc).toList := ⟨_, rfl⟩
  have hs1 := World.rangeAt_setCells_same W (G.N + 3 * e.b) ((inB e.b LR).length * 8) (recC e.rc).toList (by rw [hl]; exact there_sub hB.tR (by omega))
  have z1 : W1.heap.size = W.heap.size := by rw [hW1, size_setCells]
  rw [← hW1] at g1 hs1 ⊢
  rw [hl] at g1
  have g2 := Off.setCell G.l G.B (G.O + e.b * 49 + 3) (.slice (some ⟨G.N + 3 * e.b, 0, none⟩) ((inB e.b LR).length + 1) (inB e.b L).length) W1
  obtain ⟨W2, hW2⟩ : ∃ x, x = W1.setCell ⟨G.B, G.O + e.b * 49 + 3, none⟩ (.slice (some ⟨G.N + 3 * e.b, 0, none⟩) ((inB e.b LR).length + 1) (inB e.b L).length) := ⟨_, rfl⟩
  have c3 : W2.cell? ⟨G.B, G.O + e.b * 49 + 3, none⟩ = some (.slice (some ⟨G.N + 3 * e.b, 0, none⟩) ((inB e.b LR).length + 1) (inB e.b L).length) := by
    rw [hW2]; exact cell_set ((g1.cell _ _ (by omega) (fun hh => by omega)).trans hB.c3)
  rw [← hW2] at g2 ⊢
  have g : Off G.l (fun x o => (x = G.N + 3 * e.b ∧ (inB e.b LR).length * 8 ≤ o ∧ o < (inB e.b LR).length * 8 + 8) ∨ (x = G.B ∧ o = G.O + e.b * 49 + 3)) W W2 := (g1.mono (fun _ _ q => Or.inl q)).trans (g2.mono (fun _ _ q => Or.inr q))
  refine h.touch e.b hb g (fun x o hx => by omega) _ _ _ _ (fun b' hb' => inB_other _ hb') (fun _ _ => rfl) (fun _ _ => rfl) (fun _ _ => rfl) h.few ?_
  rw [inB_self]
  exact {
    c2 := (g.cell _ _ (by omega) (fun hh => by omega)).trans hB.c2
    c3 := by rw [List.length_append]; exact c3
    c4 := (g.cell _ _ (by omega) (fun hh => by omega)).trans hB.c4
    c5 := (g.cell _ _ (by omega) (fun hh => by omega)).trans hB.c5
    tR := g.there _ _ _ (by omega) (by omega) hB.tR
    tK := g.there _ _ _ (by omega) (by omega) hB.tK
    tH := g.there _ _ _ (by omega) (by omega) hB.tH
    recs := fun i x hx => by
      rcases snoc_get hx with ⟨hi, hg⟩ | ⟨rfl, rfl⟩
      · exact g.range (hB.recs i x hg) (by omega) (fun j hj => by have hl2 : ((recC x.rc).toList).length = 8 := rfl; rw [hl2] at hj; omega)
      · exact g2.range hs1 (by omega) (fun j hj => by omega)
    keys := fun i x hx => g.range (hB.keys i x hx) (by omega) (fun j hj => by omega)
    heads := fun i x hx => (g.cell _ _ (by omega) (fun hh => by omega)).trans (hB.heads i x hx)
    owns := fun hw i x hx => (g.cell _ _ (by omega) (fun hh => by omega)).trans (hB.owns hw i x hx) }

theorem Full.putK {w W : World} {sf k : List Nat} {n : Nat} {L : List Ent} {own lv : Bool} {G : Geo} {m : Nat} {LR LK LH LO : List Ent} (h : Full w W sf k n L own lv G m LR LK LH LO) (e : Ent) (hb : e.b < m) (hlt : (inB e.b LK).length + 1 ≤ (inB e.b L).length) (hk : IsKey e.key) (hks : ∀ x, x ∈ LK → IsKey x.key) :
    Full w ((W.setCells (G.N + 3 * e.b + 1) ((inB e.b LK).length * 32) (kcells e.key).toList).setCell ⟨G.B, G.O + e.b * 49 + 4, none⟩ (.slice (some ⟨G.N + 3 * e.b + 1, 0, none⟩) ((inB e.b LK).length + 1) (inB e.b L).length)) sf k n L own lv G m LR (LK ++ [e]) LH LO := by
  obtain ⟨l1, l2, l3, l4, l5⟩ := h.tab.lt
  have hz := h.sz
  have hB := h.bk e.b hb
  have hl : ((kcells e.key).toList).length = 32 := by rw [Array.length_toList, kcells_size, hk.len]
  have g1 := Off.setCells G.l (G.N + 3 * e.b + 1) ((inB e.b LK).length * 32) (kcells e.key).toList W
  obtain ⟨W1, hW1⟩ : ∃ x, x = W.setCells (G.N + 3 * e.b + 1) ((inB e.b LK).length * 32) (kcells e.key).toList := ⟨_, rfl⟩
  have hs1 := World.rangeAt_setCells_same W (G.N + 3 * e.b + 1) ((inB e.b LK).length * 32) (kcells e.key).toList (by rw [hl]; exact there_sub hB.tK (by omega))
  have z1 : W1.heap.size = W.heap.size := by rw [hW1, size_setCells]
  rw [← hW1] at g1 hs1 ⊢
  rw [hl] at g1
  have g2 := Off.setCell G.l G.B (G.O + e.b * 49 + 4) (.slice (some ⟨G.N + 3 * e.b + 1, 0, none⟩) ((inB e.b LK).length + 1) (inB e.b L).length) W1
  obtain ⟨W2, hW2⟩ : ∃ x, x = W1.setCell ⟨G.B, G.O + e.b * 49 + 4, none⟩ (.slice (some ⟨G.N + 3 * e.b + 1, 0, none⟩) ((inB e.b LK).length + 1) (inB e.b L).length) := ⟨_, rfl⟩
  have c4 : W2.cell? ⟨G.B, G.O + e.b * 49 + 4, none⟩ = some (.slice (some ⟨G.N + 3 * e.b + 1, 0, none⟩) ((inB e.b LK).length + 1) (inB e.b L).length) := by
    rw [hW2]; exact cell_set ((g1.cell _ _ (by omega) (fun hh => by omega)).trans hB.c4)
  rw [← hW2] at g2 ⊢
  have g : Off G.l (fun x o => (x = G.N + 3 * e.b + 1 ∧ (inB e.b LK).length * 32 ≤ o ∧ o < (inB e.b LK).length * 32 + 32) ∨ (x = G.B ∧ o = G.O + e.b * 49 + 4)) W W2 := (g1.mono (fun _ _ q => Or.inl q)).trans (g2.mono (fun _ _ q => Or.inr q))
  refine h.touch e.b hb g (fun x o hx => by omega) _ _ _ _ (fun _ _ => rfl) (fun b' hb' => inB_other _ hb') (fun _ _ => rfl) (fun _ _ => rfl) h.few ?_
  rw [inB_self]
  exact {
    c2 := (g.cell _ _ (by omega) (fun hh => by omega)).trans hB.c2
    c3 := (g.cell _ _ (by omega) (fun hh => by omega)).trans hB.c3
    c4 := by rw [List.length_append]; exact c4
    c5 := (g.cell _ _ (by omega) (fun hh => by omega)).trans hB.c5
    tR := g.there _ _ _ (by omega) (by omega) hB.tR
    tK := g.there _ _ _ (by omega) (by omega) hB.tK
    tH := g.there _ _ _ (by omega) (by omega) hB.tH
    recs := fun i x hx => g.range (hB.recs i x hx) (by omega) (fun j hj => by omega)
    keys := fun i x hx => by
      rcases snoc_get hx with ⟨hi, hg⟩ | ⟨rfl, rfl⟩
      · have hm : x ∈ inB e.b LK := List.mem_of_getElem? hg
        have hl2 : ((kcells x.key).toList).length = 32 := by rw [Array.length_toList, kcells_size, (hks x (mem_inB hm).1).len]
        exact g.range (hB.keys i x hg) (by omega) (fun j hj => by rw [hl2] at hj; omega)
      · exact g2.range hs1 (by omega) (fun j hj => by omega)
    heads := fun i x hx => (g.cell _ _ (by omega) (fun hh => by omega)).trans (hB.heads i x hx)
    owns := fun hw i x hx => (g.cell _ _ (by omega) (fun hh => by omega)).trans (hB.owns hw i x hx) }

theorem Full.putH {w W : World} {sf k : List Nat} {n : Nat} {L : List Ent} {own lv : Bool} {G : Geo} {m : Nat} {LR LK LH LO : List Ent} (h : Full w W sf k n L own lv G m LR LK LH LO) (e : Ent) (hb : e.b < m) (hlt : (inB e.b LH).length + 1 ≤ (inB e.b L).length) :
    Full w ((W.setCells (G.N + 3 * e.b + 2) ((inB e.b LH).length * 1) [headV e]).setCell ⟨G.B, G.O + e.b * 49 + 5, none⟩ (.slice (some ⟨G.N + 3 * e.b + 2, 0, none⟩) ((inB e.b LH).length + 1) (inB e.b L).length)) sf k n L own lv G m LR LK (LH ++ [e]) LO := by
  obtain ⟨l1, l2, l3, l4, l5⟩ := h.tab.lt
  have hz := h.sz
  have hB := h.bk e.b hb
  rw [Nat.mul_one]
  have hl : ([headV e] : List Value).length = 1 := rfl
  have g1 := Off.setCells G.l (G.N + 3 * e.b + 2) (inB e.b LH).length [headV e] W
  obtain ⟨W1, hW1⟩ : ∃ x, x = W.setCells (G.N + 3 * e.b + 2) (inB e.b LH).length [headV e] := ⟨_, rfl⟩
  have hs1 := World.rangeAt_setCells_same W (G.N + 3 * e.b + 2) (inB e.b LH).length [headV e] (by rw [hl]; exact there_sub hB.tH (by omega))
  have z1 : W1.heap.size = W.heap.size := by rw [hW1, size_setCells]
  rw [← hW1] at g1 hs1 ⊢
  rw [hl] at g1
  have hs2 : W1.cell? ⟨G.N + 3 * e.b + 2, (inB e.b LH).length, none⟩ = some (headV e) := hs1 0 _ rfl
  have g2 := Off.setCell G.l G.B (G.O + e.b * 49 + 5) (.slice (some ⟨G.N + 3 * e.b + 2, 0, none⟩) ((inB e.b LH).length + 1) (inB e.b L).length) W1
  obtain ⟨W2, hW2⟩ : ∃ x, x = W1.setCell ⟨G.B, G.O + e.b * 49 + 5, none⟩ (.slice (some ⟨G.N + 3 * e.b + 2, 0, none⟩) ((inB e.b LH).length + 1) (inB e.b L).length) := ⟨_, rfl⟩
  have c5 : W2.cell? ⟨G.B, G.O + e.b * 49 + 5, none⟩ = some (.slice (some ⟨G.N + 3 * e.b + 2, 0, none⟩) ((inB e.b LH).length + 1) (inB e.b L).length) := by
    rw [hW2]; exact cell_set ((g1.cell _ _ (by omega) (fun hh => by omega)).trans hB.c5)
  rw [← hW2] at g2 ⊢
  have g : Off G.l (fun x o => (x = G.N + 3 * e.b + 2 ∧ o = (inB e.b LH).length) ∨ (x = G.B ∧ o = G.O + e.b * 49 + 5)) W W2 := (g1.mono (fun _ _ q => Or.inl ⟨q.1, by omega⟩)).trans (g2.mono (fun _ _ q => Or.inr q))
  refine h.touch e.b hb g (fun x o hx => by omega) _ _ _ _ (fun _ _ => rfl) (fun _ _ => rfl) (fun b' hb' => inB_other _ hb') (fun _ _ => rfl) h.few ?_
  rw [inB_self]
  exact {
    c2 := (g.cell _ _ (by omega) (fun hh => by omega)).trans hB.c2
    c3 := (g.cell _ _ (by omega) (fun hh => by omega)).trans hB.c3
    c4 := (g.cell _ _ (by omega) (fun hh => by omega)).trans hB.c4
    c5 := by rw [List.length_append]; exact c5
    tR := g.there _ _ _ (by omega) (by omega) hB.tR
    tK := g.there _ _ _ (by omega) (by omega) hB.tK
    tH := g.there _ _ _ (by omega) (by omega) hB.tH
    recs := fun i x hx => g.range (hB.recs i x hx) (by omega) (fun j hj => by omega)
    keys := fun i x hx => g.range (hB.keys i x hx) (by omega) (fun j hj => by omega)
    heads := fun i x hx => by
      rcases snoc_get hx with ⟨hi, hg⟩ | ⟨rfl, rfl⟩
      · exact (g.cell _ _ (by omega) (fun hh => by omega)).trans (hB.heads i x hg)
      · exact (g2.cell _ _ (by omega) (fun hh => by omega)).trans hs2
    owns := fun hw i x hx => (g.cell _ _ (by omega) (fun hh => by omega)).trans (hB.owns hw i x hx) }

theorem Full.putO {w W : World} {sf k : List Nat} {n : Nat} {L : List Ent} {own lv : Bool} {G : Geo} {m : Nat} {LR LK LH LO : List Ent} (h : Full w W sf k n L own lv G m LR LK LH LO) (e : Ent) (hb : e.b < m) (hf : own = true → ∀ b, (inB b (LO ++ [e])).length ≤ 20) (ho : own = true) :
    Full w (W.setCell ⟨G.B, G.O + e.b * 49 + 9 + (inB e.b LO).length, none⟩ (headV e)) sf k n L own lv G m LR LK LH (LO ++ [e]) := by
  obtain ⟨l1, l2, l3, l4, l5⟩ := h.tab.lt
  have hz := h.sz
  have hd := h.md
  have hB := h.bk e.b hb
  have h20 := hf ho e.b
  rw [len_self] at h20
  have g := Off.setCell G.l G.B (G.O + e.b * 49 + 9 + (inB e.b LO).length) (headV e) W
  have hc : (W.setCell ⟨G.B, G.O + e.b * 49 + 9 + (inB e.b LO).length, none⟩ (headV e)).cell? ⟨G.B, G.O + e.b * 49 + 9 + (inB e.b LO).length, none⟩ = some (headV e) := by
    have := (h.tab.tBk (e.b * 49 + 9 + (inB e.b LO).length) (by omega)).1
    rw [← Nat.add_assoc, ← Nat.add_assoc] at this
    obtain ⟨u, hu⟩ := Option.isSome_iff_exists.1 this
    exact cell_set hu
  obtain ⟨W2, hW2⟩ : ∃ x, x = W.setCell ⟨G.B, G.O + e.b * 49 + 9 + (inB e.b LO).length, none⟩ (headV e) := ⟨_, rfl⟩
  rw [← hW2] at g hc ⊢
  refine h.touch e.b hb g (fun x o hx => by omega) _ _ _ _ (fun _ _ => rfl) (fun _ _ => rfl) (fun _ _ => rfl) (fun b' hb' => inB_other _ hb') hf ?_
  rw [inB_self]
  exact {
    c2 := (g.cell _ _ (by omega) (fun hh => by omega)).trans hB.c2
    c3 := (g.cell _ _ (by omega) (fun hh => by omega)).trans hB.c3
    c4 := (g.cell _ _ (by omega) (fun hh => by omega)).trans hB.c4
    c5 := (g.cell _ _ (by omega) (fun hh => by omega)).trans hB.c5
    tR := g.there _ _ _ (by omega) (by omega) hB.tR
    tK := g.there _ _ _ (by omega) (by omega) hB.tK
    tH := g.there _ _ _ (by omega) (by omega) hB.tH
    recs := fun i x hx => g.range (hB.recs i x hx) (by omega) (fun j hj => by omega)
    keys := fun i x hx => g.range (hB.keys i x hx) (by omega) (fun j hj => by omega)
    heads := fun i x hx => (g.cell _ _ (by omega) (fun hh => by omega)).trans (hB.heads i x hx)
    owns := fun hw i x hx => by
      rcases snoc_get hx with ⟨hi, hg⟩ | ⟨rfl, rfl⟩
      · exact (g.cell _ _ (by omega) (fun hh => by omega)).trans (hB.owns hw i x hg)
      · exact hc }
theorem Full.skipO {w W : World} {sf k : List Nat} {n : Nat} {L : List Ent} {lv : Bool} {G : Geo} {m : Nat} {LR LK LH LO : List Ent} (h : Full w W sf k n L false lv G m LR LK LH LO) (e : Ent) : Full w W sf k n L false lv G m LR LK LH (LO ++ [e]) :=
  ⟨h.tab, fun b hb => by
    have hB := h.bk b hb
    exact ⟨hB.c2, hB.c3, hB.c4, hB.c5, hB.tR, hB.tK, hB.tH, hB.recs, hB.keys, hB.heads, fun hw => by cases hw⟩, h.md, h.sz, fun hw => (by cases hw), h.hs, h.lk⟩

theorem Full.start {w W : World} {sf k : List Nat} {n : Nat} {L : List Ent} {own : Bool} {G : Geo} (h : Tab w W sf k n L G) (hs : sf.length = 32) (hl : Lk W G.l) : Full w W sf k n L own true G 0 [] [] [] [] :=
  ⟨h, fun b hb => by omega, Nat.zero_le _, by have := h.lt; omega, fun _ b => by simp [inB], hs, fun _ => hl⟩
theorem inB_nil (b : Nat) : inB b [] = [] := rfl
/-- one bucket more -/
theorem Full.grow {w W W' : World} {sf k : List Nat} {n : Nat} {L : List Ent} {own lv : Bool} {G : Geo} {m c : Nat} {A8 A32 A1 : Array Value} {t8 t32 t1 : TypeId} (h : Full w W sf k n L own lv G m [] [] [] []) (hm : m < G.d) (hsz : W.heap.size = G.N + 3 * m) (hc : (inB m L).length = c) (h8 : A8.size = c * 8) (h32 : A32.size = c * 32) (h1 : A1.size = c * 1)
    (hW' : W' = ((((((W.setCell ⟨G.B, G.O + m * 49 + 2, none⟩ (.bool own)).alloc (.cells A8 t8)).setCell ⟨G.B, G.O + m * 49 + 3, none⟩ (.slice (some ⟨W.heap.size, 0, none⟩) 0 c)).alloc (.cells A32 t32)).setCell ⟨G.B, G.O + m * 49 + 4, none⟩ (.slice (some ⟨W.heap.size + 1, 0, none⟩) 0 c)).alloc (.cells A1 t1)).setCell ⟨G.B, G.O + m * 49 + 5, none⟩ (.slice (some ⟨W.heap.size + 2, 0, none⟩) 0 c)) :
    Full w W' sf k n L own lv G (m + 1) [] [] [] [] ∧ W'.heap.size = W.heap.size + 3 := by
  obtain ⟨l1, l2, l3, l4, l5⟩ := h.tab.lt
  have hz := h.sz
  have hd : m * 49 + 49 ≤ G.d * 49 := by omega
  have hu : ∀ o, o < 49 → ∃ u, W.cell? ⟨G.B, G.O + m * 49 + o, none⟩ = some u := fun o ho => by
    have := (h.tab.tBk (m * 49 + o) (by omega)).1
    rw [← Nat.add_assoc] at this
    exact Option.isSome_iff_exists.1 this
  obtain ⟨W1, e1⟩ : ∃ x, x = W.setCell ⟨G.B, G.O + m * 49 + 2, none⟩ (.bool own) := ⟨_, rfl⟩
  rw [← e1] at hW'
  obtain ⟨W2, e2⟩ : ∃ x, x = W1.alloc (.cells A8 t8) := ⟨_, rfl⟩
  rw [← e2] at hW'
  obtain ⟨W3, e3⟩ : ∃ x, x = W2.setCell ⟨G.B, G.O + m * 49 + 3, none⟩ (.slice (some ⟨W.heap.size, 0, none⟩) 0 c) := ⟨_, rfl⟩
  rw [← e3] at hW'
  obtain ⟨W4, e4⟩ : ∃ x, x = W3.alloc (.cells A32 t32) := ⟨_, rfl⟩
  rw [← e4] at hW'
  obtain ⟨W5, e5⟩ : ∃ x, x = W4.setCell ⟨G.B, G.O + m * 49 + 4, none⟩ (.slice (some ⟨W.heap.size + 1, 0, none⟩) 0 c) := ⟨_, rfl⟩
  rw [← e5] at hW'
  obtain ⟨W6, e6⟩ : ∃ x, x = W5.alloc (.cells A1 t1) := ⟨_, rfl⟩
  rw [← e6] at hW'
  have z1 : W1.heap.size = W.heap.size := by rw [e1]; simp [World.setCell]
  have z2 : W2.heap.size = W.heap.size + 1 := by rw [e2]; simp [z1]
  have z3 : W3.heap.size = W.heap.size + 1 := by rw [e3]; simp [World.setCell, z2]
  have z4 : W4.heap.size = W.heap.size + 2 := by rw [e4]; simp [z3]
  have z5 : W5.heap.size = W.heap.size + 2 := by rw [e5]; simp [World.setCell, z4]
  have z6 : W6.heap.size = W.heap.size + 3 := by rw [e6]; simp [z5]
  have z7 : W'.heap.size = W.heap.size + 3 := by rw [hW']; simp [World.setCell, z6]
  have g1 : Off G.l (fun x o => x = G.B ∧ o = G.O + m * 49 + 2) W W1 := by rw [e1]; exact Off.setCell _ _ _ _ _
  have g2 : ∀ T, Off G.l T W1 W2 := fun T => by rw [e2]; exact Off.alloc _ _
  have g3 : Off G.l (fun x o => x = G.B ∧ o = G.O + m * 49 + 3) W2 W3 := by rw [e3]; exact Off.setCell _ _ _ _ _
  have g4 : ∀ T, Off G.l T W3 W4 := fun T => by rw [e4]; exact Off.alloc _ _
  have g5 : Off G.l (fun x o => x = G.B ∧ o = G.O + m * 49 + 4) W4 W5 := by rw [e5]; exact Off.setCell _ _ _ _ _
  have g6 : ∀ T, Off G.l T W5 W6 := fun T => by rw [e6]; exact Off.alloc _ _
  have g7 : Off G.l (fun x o => x = G.B ∧ o = G.O + m * 49 + 5) W6 W' := by rw [hW']; exact Off.setCell _ _ _ _ _
  have k6 : Off G.l (fun x o => x = G.B ∧ o = G.O + m * 49 + 5) W5 W' := (g6 _).trans g7
  have k5 : Off G.l (fun x o => x = G.B ∧ G.O + m * 49 + 4 ≤ o ∧ o ≤ G.O + m * 49 + 5) W4 W' := (g5.mono (fun _ _ q => by omega)).trans (k6.mono (fun _ _ q => by omega))
  have k4 : Off G.l (fun x o => x = G.B ∧ G.O + m * 49 + 4 ≤ o ∧ o ≤ G.O + m * 49 + 5) W3 W' := (g4 _).trans k5
  have k3 : Off G.l (fun x o => x = G.B ∧ G.O + m * 49 + 3 ≤ o ∧ o ≤ G.O + m * 49 + 5) W2 W' := (g3.mono (fun _ _ q => by omega)).trans (k4.mono (fun _ _ q => by omega))
  have k2 : Off G.l (fun x o => x = G.B ∧ G.O + m * 49 + 3 ≤ o ∧ o ≤ G.O + m * 49 + 5) W1 W' := (g2 _).trans k3
  have g : Off G.l (fun x o => x = G.B ∧ G.O + m * 49 + 2 ≤ o ∧ o ≤ G.O + m * 49 + 5) W W' := (g1.mono (fun _ _ q => by omega)).trans (k2.mono (fun _ _ q => by omega))
  have q2 : W1.cell? ⟨G.B, G.O + m * 49 + 2, none⟩ = some (.bool own) := by
    obtain ⟨u, hu⟩ := hu 2 (by omega); rw [e1]; exact cell_set hu
  have p3 : ∃ u, W2.cell? ⟨G.B, G.O + m * 49 + 3, none⟩ = some u := by
    obtain ⟨u, hu⟩ := hu 3 (by omega)
    exact ⟨u, ((g2 (fun x o => o + 1 ≤ o)).cell _ _ (by omega) (fun hh => by omega)).trans ((g1.cell _ _ (by omega) (fun hh => by omega)).trans hu)⟩
  have q3 : W3.cell? ⟨G.B, G.O + m * 49 + 3, none⟩ = some (.slice (some ⟨W.heap.size, 0, none⟩) 0 c) := by
    obtain ⟨u, hu⟩ := p3; rw [e3]; exact cell_set hu
  have p4 : ∃ u, W4.cell? ⟨G.B, G.O + m * 49 + 4, none⟩ = some u := by
    obtain ⟨u, hu⟩ := hu 4 (by omega)
    exact ⟨u, ((g4 (fun x o => o + 1 ≤ o)).cell _ _ (by omega) (fun hh => by omega)).trans ((g3.cell _ _ (by omega) (fun hh => by omega)).trans (((g2 (fun x o => o + 1 ≤ o)).cell _ _ (by omega) (fun hh => by omega)).trans ((g1.cell _ _ (by omega) (fun hh => by omega)).trans hu)))⟩
  have q4 : W5.cell? ⟨G.B, G.O + m * 49 + 4, none⟩ = some (.slice (some ⟨W.heap.size + 1, 0, none⟩) 0 c) := by
    obtain ⟨u, hu⟩ := p4; rw [e5]; exact cell_set hu
  have p5 : ∃ u, W6.cell? ⟨G.B, G.O + m * 49 + 5, none⟩ = some u := by
    obtain ⟨u, hu⟩ := hu 5 (by omega)
    exact ⟨u, ((g6 (fun x o => o + 1 ≤ o)).cell _ _ (by omega) (fun hh => by omega)).trans ((g5.cell _ _ (by omega) (fun hh => by omega)).trans (((g4 (fun x o => o + 1 ≤ o)).cell _ _ (by omega) (fun hh => by omega)).trans ((g3.cell _ _ (by omega) (fun hh => by omega)).trans (((g2 (fun x o => o + 1 ≤ o)).cell _ _ (by omega) (fun hh => by omega)).trans ((g1.cell _ _ (by omega) (fun hh => by omega)).trans hu)))))⟩
  have q5 : W'.cell? ⟨G.B, G.O + m * 49 + 5, none⟩ = some (.slice (some ⟨W.heap.size + 2, 0, none⟩) 0 c) := by
    obtain ⟨u, hu⟩ := p5; rw [hW']; exact cell_set hu
  have r8 : W2.there W.heap.size 0 (c * 8) := by
    have := there_new W1 A8 t8
    rw [← e2, z1, h8] at this; exact this
  have r32 : W4.there (W.heap.size + 1) 0 (c * 32) := by
    have := there_new W3 A32 t32
    rw [← e4, z3, h32] at this; exact this
  have r1 : W6.there (W.heap.size + 2) 0 (c * 1) := by
    have := there_new W5 A1 t1
    rw [← e6, z5, h1] at this; exact this
  refine ⟨⟨h.tab.off g (fun x o hx => Or.inl (Or.inl (by omega))) h.hs, fun b hb => ?_, by omega, by omega, fun _ b => by simp [inB_nil], h.hs, fun hv => (h.lk hv).off g (by omega) (fun o hx => by have := h.tab.ne; omega)⟩, z7⟩
  by_cases e : b = m
  · subst e
    rw [hc]
    simp only [inB_nil]
    rw [hsz] at q3 q4 q5 r8 r32 r1
    exact {
      c2 := (k2.cell _ _ (by omega) (fun hh => by omega)).trans q2
      c3 := (k4.cell _ _ (by omega) (fun hh => by omega)).trans q3
      c4 := (k6.cell _ _ (by omega) (fun hh => by omega)).trans q4
      c5 := q5
      tR := k3.there _ _ _ (by omega) (by omega) r8
      tK := k5.there _ _ _ (by omega) (by omega) r32
      tH := g7.there _ _ _ (by omega) (by omega) r1
      recs := fun i e he => by simp at he
      keys := fun i e he => by simp at he
      heads := fun i e he => by simp at he
      owns := fun _ i e he => by simp at he }
  · exact (h.bk b (by omega)).off g (by omega) (by omega) l1 (fun o ho => by omega) (fun i o hi => by omega) (fun _ => by simp [inB_nil])

/-! ### the table's literal -/
def aggOf : Result Value → Array Value
  | .ok (.agg C) _ => C
  | _ => #[]
def tabVs (sf : List Nat) (l : Nat) (wl : Nat) (ex : Int) (own : Bool) : Array (Nat × Value) := #[(0, .agg (kcells sf)), (1, .iface 65 (.pointer (some ⟨l, 0, none⟩))), (10, .agg #[.int .u64 (wl : Int), .int .i64 ex, .pointer none]), (5, .int .i64 20), (9, .bool own)]
structure TabC (C : Array Value) (sf : List Nat) (l wl : Nat) (ex : Int) : Prop where
  slf : C.toList.take 32 = (kcells sf).toList
  c32 : C[32]? = some (.iface 65 (.pointer (some ⟨l, 0, none⟩)))
  c34 : (C[34]?).isSome = true
  e0 : C[41]? = some (.int .u64 (wl : Int))
  e1 : C[42]? = some (.int .i64 ex)
  e2 : C[43]? = some (.pointer none)
  sz : C.size = 1229
set_option maxRecDepth 100000 in
theorem table_built (sf : List Nat) (hk : IsKey sf) (l wl : Nat) (ex : Int) (own : Bool) : ∃ C : Array Value, (∀ w, (Instr.build 51 (tabVs sf l wl ex own)).run Yba.prog w = .ok (.agg C) w) ∧ TabC C sf l wl ex := by
  obtain ⟨a0, a1, a2, a3, a4, a5, a6, a7, a8, a9, a10, a11, a12, a13, a14, a15, a16, a17, a18, a19, a20, a21, a22, a23, a24, a25, a26, a27, a28, a29, a30, a31, rfl⟩ := key_elems sf hk
  refine ⟨aggOf ((Instr.build 51 (tabVs [a0, a1, a2, a3, a4, a5, a6, a7, a8, a9, a10, a11, a12, a13, a14, a15, a16, a17, a18, a19, a20, a21, a22, a23, a24, a25, a26, a27, a28, a29, a30, a31] l wl ex own)).run Yba.prog default), ?_, ?_, ?_, ?_, ?_, ?_, ?_, ?_⟩
  · intro w; kernel_rfl
  all_goals kernel_rfl

def timeC (wl : Nat) (ex : Int) : Array Value := #[.int .u64 (wl : Int), .int .i64 ex, .pointer none]
theorem row_cell {W : World} {b : Nat} {C : Array Value} {t : TypeId} (h : W.heap[b]? = some (.cells C t (0, 0))) (o : Nat) : W.cell? ⟨b, o, none⟩ = C[o]? ∧ W.frozen? ⟨b, o, none⟩ = false := by
  constructor
  · simp [World.cell?, h]
  · simp [World.frozen?, h]
theorem tab_start {w W0 W5 Wm W6 : World} {sf k : List Nat} {n : Nat} {L : List Ent} (hl : Lay1 w W0 sf k n L L L L L) {C : Array Value} {wl : Nat} {ex : Int} (hC : TabC C sf W0.heap.size wl ex)
    (h5 : W5 = ((((W0.alloc (.cells #[.int .i64 0, .int .i64 0] 67)).alloc (.cells (timeC wl ex) 38)).alloc (.cells (timeC wl ex) 38)).alloc (.cells (timeC wl ex) 38)).alloc (.cells C 51)) (hb : Below (W0.heap.size + 5) W5 Wm) (B O d cap N : Nat) (hB : (B = W0.heap.size + 4 ∧ O = 53) ∨ B = W0.heap.size + 5) (ht : Wm.there B O (d * 49))
    (near : d ≤ 24 → B = W0.heap.size + 4 ∧ O = 53) (d2 : d ≤ 257) (hd : d = depthE L) (hN : Wm.heap.size = N) (hBN : B < N) (wlt : wl < 1000000000)
    (h6 : W6 = Wm.setCell ⟨W0.heap.size + 4, 34, none⟩ (.slice (some ⟨B, O, none⟩) d cap)) :
    Tab w W6 sf k n L ⟨W0.heap.size, W0.heap.size + 3, W0.heap.size + 4, B, O, d, cap, wl, N, ex⟩ ∧ Lk W6 W0.heap.size ∧ W6.heap.size = N := by
  obtain ⟨W1, e1⟩ : ∃ x, x = W0.alloc (.cells #[.int .i64 0, .int .i64 0] 67) := ⟨_, rfl⟩
  rw [← e1] at h5
  obtain ⟨W2, e2⟩ : ∃ x, x = W1.alloc (.cells (timeC wl ex) 38) := ⟨_, rfl⟩
  rw [← e2] at h5
  obtain ⟨W3, e3⟩ : ∃ x, x = W2.alloc (.cells (timeC wl ex) 38) := ⟨_, rfl⟩
  rw [← e3] at h5
  obtain ⟨W4, e4⟩ : ∃ x, x = W3.alloc (.cells (timeC wl ex) 38) := ⟨_, rfl⟩
  rw [← e4] at h5
  have s1 : W1.heap.size = W0.heap.size + 1 := by rw [e1]; simp
  have s2 : W2.heap.size = W0.heap.size + 2 := by rw [e2]; simp [s1]
  have s3 : W3.heap.size = W0.heap.size + 3 := by rw [e3]; simp [s2]
  have s4 : W4.heap.size = W0.heap.size + 4 := by rw [e4]; simp [s3]
  have s5 : W5.heap.size = W0.heap.size + 5 := by rw [h5]; simp [s4]
  have b1 : Below W0.heap.size W0 W1 := by rw [e1]; exact (Below.refl _ _).alloc (Nat.le_refl _) _
  have b2 : Below W1.heap.size W1 W2 := by rw [e2]; exact (Below.refl _ _).alloc (Nat.le_refl _) _
  have b3 : Below W2.heap.size W2 W3 := by rw [e3]; exact (Below.refl _ _).alloc (Nat.le_refl _) _
  have b4 : Below W3.heap.size W3 W4 := by rw [e4]; exact (Below.refl _ _).alloc (Nat.le_refl _) _
  have b5 : Below W4.heap.size W4 W5 := by rw [h5]; exact (Below.refl _ _).alloc (Nat.le_refl _) _
  have hz := hl.sz
  have r0 : Wm.heap[W0.heap.size]? = some (.cells #[.int .i64 0, .int .i64 0] 67 (0, 0)) := by
    rw [hb.block _ (by omega), b5.block _ (by omega), b4.block _ (by omega), b3.block _ (by omega), b2.block _ (by omega), e1]
    exact heap_alloc_new _ _
  have r3 : Wm.heap[W0.heap.size + 3]? = some (.cells (timeC wl ex) 38 (0, 0)) := by
    rw [hb.block _ (by omega), b5.block _ (by omega), e4, ← s3]
    exact heap_alloc_new _ _
  have r4 : Wm.heap[W0.heap.size + 4]? = some (.cells C 51 (0, 0)) := by
    rw [hb.block _ (by omega), h5, ← s4]
    exact heap_alloc_new _ _
  have hlm : Below W0.heap.size W0 Wm := (((((b1.trans (b2.mono (by omega))).trans (b3.mono (by omega))).trans (b4.mono (by omega))).trans (b5.mono (by omega))).trans (hb.mono (by omega)))
  have g : Off W0.heap.size (fun b o => b = W0.heap.size + 4 ∧ o = 34) Wm W6 := by rw [h6]; exact Off.setCell _ _ _ _ _
  have hm5 := hb.size
  have z6 : W6.heap.size = N := by rw [h6]; simp [World.setCell, hN]
  have t0 := fun o => (row_cell r4 o).1
  have t3 := fun o => (row_cell r3 o).1
  have t1 := fun o => row_cell r0 o
  have key : KeyAt Wm (W0.heap.size + 4) 0 sf := by
    intro j v hj
    rw [Nat.zero_add, t0, ← Array.getElem?_toList]
    rw [← hC.slf, List.getElem?_take] at hj
    split at hj
    · exact hj
    · cases hj
  obtain ⟨u34, hu34⟩ := Option.isSome_iff_exists.1 hC.c34
  refine ⟨{
    lay := (hl.keep (hlm.mono hz)).keep (g.below (by omega) (fun b o hb ht => by omega))
    slf := g.range (g := W0.heap.size + 4) key (by omega) (fun j hj => by
      rw [← hC.slf, List.length_take] at hj; omega)
    c32 := (g.cell (W0.heap.size + 4) 32 (by omega) (fun hh => by omega)).trans ((t0 32).trans hC.c32)
    c34 := by rw [h6]; exact cell_set ((t0 34).trans hu34)
    e0 := (g.cell (W0.heap.size + 4) 41 (by omega) (fun hh => by omega)).trans ((t0 41).trans hC.e0)
    e1 := (g.cell (W0.heap.size + 4) 42 (by omega) (fun hh => by omega)).trans ((t0 42).trans hC.e1)
    e2 := (g.cell (W0.heap.size + 4) 43 (by omega) (fun hh => by omega)).trans ((t0 43).trans hC.e2)
    p0 := (g.cell (W0.heap.size + 3) 0 (by omega) (fun hh => by omega)).trans (t3 0)
    p1 := (g.cell (W0.heap.size + 3) 1 (by omega) (fun hh => by omega)).trans (t3 1)
    p2 := (g.cell (W0.heap.size + 3) 2 (by omega) (fun hh => by omega)).trans (t3 2)
    tBk := g.there B O (d * 49) (by omega) (by omega) ht
    ge := ⟨hz, by show _ ≤ W0.heap.size + 3; omega, by show _ ≤ W0.heap.size + 4; omega, by show _ ≤ B; omega⟩
    ne := ⟨by show W0.heap.size ≠ W0.heap.size + 3; omega, by show W0.heap.size ≠ W0.heap.size + 4; omega, by show W0.heap.size ≠ B; omega, by show W0.heap.size + 3 ≠ B; omega⟩
    lt := ⟨by show W0.heap.size < N; omega, by show W0.heap.size + 3 < N; omega, by show W0.heap.size + 4 < N; omega, hBN, by show N ≤ _; omega⟩
    near := near
    over := fun h => by
      have h' : B = W0.heap.size + 4 := h
      rcases hB with h1 | h1
      · show 53 ≤ O; omega
      · omega
    d2 := d2
    dd := hd
    wlt := wlt }, ⟨(g.cell _ _ (by omega) (fun hh => by omega)).trans (t1 0).1, (g.cell _ _ (by omega) (fun hh => by omega)).trans (t1 1).1, (g.frz _ _ (by omega) (fun hh => by omega)).trans (t1 0).2, (g.frz _ _ (by omega) (fun hh => by omega)).trans (t1 1).2⟩, z6⟩

/-- the times are numbers of 64 bits -/
def Bnd (q : Rec) : Prop := -9223372036854775808 ≤ q.added ∧ q.added ≤ 9223372036854775807 ∧ -9223372036854775808 ≤ q.answered ∧ q.answered ≤ 9223372036854775807
def InpOk (r : Inp) : Prop := IsKey r.key ∧ r.pick < 256 ∧ (-9223372036854775808 ≤ r.added ∧ r.added ≤ 9223372036854775807) ∧ -9223372036854775808 ≤ r.answered ∧ r.answered ≤ 9223372036854775807
theorem runE_good (sf k : List Nat) (own : Bool) (rs : List Inp) (h : ∀ (i : Nat) (r : Inp), rs[i]? = some r → InpOk r) : ∀ (j : Nat) (e : Ent), e ∈ runE sf k own rs j → Bnd e.rc
  | 0, e, he => by simp [runE] at he
  | j + 1, e, he => by
    have ih := runE_good sf k own rs h j
    rw [runE] at he
    cases hr : rs[j]? with
    | none => rw [hr] at he; exact ih e he
    | some r =>
      rw [hr] at he
      simp only [stepE] at he
      split at he
      · exact ih e he
      · rcases List.mem_append.1 he with h1 | h1
        · exact ih e h1
        · obtain ⟨_, _, h2, h3⟩ := h j r hr
          simp only [List.mem_cons, List.not_mem_nil, or_false] at h1
          subst h1
          refine ⟨h2.1, h2.2, ?_, ?_⟩
          · show -9223372036854775808 ≤ (if r.never then -9223372036854775808 else r.answered); split <;> omega
          · show (if r.never then -9223372036854775808 else r.answered) ≤ 9223372036854775807; split <;> omega
end Go.Proofs.Ybulkegxe
