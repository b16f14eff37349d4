import Derived.Test.YbulkegxeLocate
namespace Go.Proofs.Ybulkegxe
open Go
set_option linter.unusedVariables false

/-- a record -/
structure Rec where
  id : Nat
  added : Int
  answered : Int
  lookups : Int
  closer : Int
  failed : Int

/-- one of the law's inputs -/
structure Inp where
  key : List Nat
  pick : Nat
  added : Int
  answered : Int
  never : Bool
  lookups : Int
  closer : Int
  failed : Int

def keyOf (k0 : List Nat) (r : Inp) : List Nat := if r.pick % 3 = 0 then k0 else if r.pick % 3 = 1 then k0.set 31 (k0.getD 31 0 ^^^ (r.pick ||| 1)) else r.key
def recOf (j : Nat) (r : Inp) : Rec := ⟨j + 1, r.added, if r.never then -9223372036854775808 else r.answered, r.lookups, r.closer, r.failed⟩

/-- an entry that the law lays -/
structure Ent where
  key : List Nat
  b : Nat
  pos : Nat
  rc : Rec

def inB (b : Nat) (L : List Ent) : List Ent := L.filter (fun e => decide (e.b = b))
def stepE (sf k0 : List Nat) (own : Bool) (L : List Ent) (j : Nat) (r : Inp) : List Ent :=
  if (own && decide (20 ≤ (inB (cplN sf (keyOf k0 r)) L).length)) = true then L else L ++ [⟨keyOf k0 r, cplN sf (keyOf k0 r), (inB (cplN sf (keyOf k0 r)) L).length, recOf j r⟩]
def runE (sf k0 : List Nat) (own : Bool) (rs : List Inp) : Nat → List Ent
  | 0 => []
  | j + 1 => match rs[j]? with
    | some r => stepE sf k0 own (runE sf k0 own rs j) j r
    | none => runE sf k0 own rs j
def depthE : List Ent → Nat
  | [] => 0
  | e :: L => max (e.b + 1) (depthE L)

theorem inB_append (b : Nat) (L M : List Ent) : inB b (L ++ M) = inB b L ++ inB b M := List.filter_append ..
theorem depthE_append : ∀ (L : List Ent) (e : Ent), depthE (L ++ [e]) = max (depthE L) (e.b + 1)
  | [], e => by simp [depthE]
  | x :: L, e => by
    have := depthE_append L e
    simp only [List.cons_append, depthE, this]; omega
theorem depthE_le : ∀ (L : List Ent) (e : Ent), e ∈ L → e.b < depthE L
  | x :: L, e, h => by
    simp only [depthE]
    rcases List.mem_cons.1 h with rfl | h
    · omega
    · have := depthE_le L e h; omega
theorem depthE_pos : ∀ (L : List Ent) (b : Nat), depthE L ≤ b → inB b L = []
  | [], b, _ => rfl
  | x :: L, b, h => by
    simp only [depthE] at h
    have h1 := depthE_pos L b (by omega)
    unfold inB at h1 ⊢
    rw [List.filter_cons, if_neg (by simp; omega), h1]

/-- what the entries keep -/
def WF (sf k0 : List Nat) (own : Bool) (L : List Ent) : Prop :=
  (∀ L1 e L2, L = L1 ++ e :: L2 → e.pos = (inB e.b L1).length ∧ e.b = cplN sf e.key ∧ IsKey e.key) ∧ (own = true → ∀ b, (inB b L).length ≤ 20)

theorem keyOf_isKey {k0 : List Nat} (h0 : IsKey k0) {r : Inp} (hr : IsKey r.key) (hp : r.pick < 256) : IsKey (keyOf k0 r) := by
  unfold keyOf
  split
  · exact h0
  · split
    · refine ⟨by rw [List.length_set]; exact h0.len, ?_⟩
      intro z hz
      rcases List.mem_or_eq_of_mem_set hz with h | h
      · exact h0.byte z h
      · rw [h]
        have h1 : k0.getD 31 0 < 2 ^ 8 := by have := byte_getD h0.byte 31; omega
        have h2 : r.pick ||| 1 < 2 ^ 8 := Nat.or_lt_two_pow (by omega) (by omega)
        exact Nat.xor_lt_two_pow h1 h2
    · exact hr

theorem WF.nil (sf k0 : List Nat) (own : Bool) : WF sf k0 own [] :=
  ⟨fun L1 e L2 h => by simp at h, fun _ b => by simp [inB]⟩
theorem WF.step {sf k0 : List Nat} {own : Bool} {L : List Ent} (h : WF sf k0 own L) (j : Nat) (r : Inp) (hk : IsKey (keyOf k0 r)) : WF sf k0 own (stepE sf k0 own L j r) := by
  unfold stepE
  split
  · exact h
  · rename_i hc
    obtain ⟨h1, h2⟩ := h
    refine ⟨fun L1 e L2 he => ?_, fun ho b => ?_⟩
    · rcases List.eq_nil_or_concat L2 with rfl | ⟨M, x, rfl⟩
      · have := List.append_inj' he rfl
        obtain ⟨e1, e2⟩ := this
        simp only [List.cons.injEq, and_true] at e2
        subst e2
        subst e1
        exact ⟨rfl, rfl, hk⟩
      · rw [List.concat_eq_append, show L1 ++ e :: (M ++ [x]) = (L1 ++ e :: M) ++ [x] by simp] at he
        have := List.append_inj' he rfl
        exact h1 L1 e M this.1
    · rw [inB_append, List.length_append]
      by_cases e : cplN sf (keyOf k0 r) = b
      · subst e
        have h3 : ¬ (20 ≤ (inB (cplN sf (keyOf k0 r)) L).length) := by
          intro h4; apply hc; rw [ho]; simp [h4]
        have : (inB (cplN sf (keyOf k0 r)) [⟨keyOf k0 r, cplN sf (keyOf k0 r), (inB (cplN sf (keyOf k0 r)) L).length, recOf j r⟩]).length ≤ 1 := by
          unfold inB; exact List.length_filter_le _ _
        omega
      · have : inB b [⟨keyOf k0 r, cplN sf (keyOf k0 r), (inB (cplN sf (keyOf k0 r)) L).length, recOf j r⟩] = ([] : List Ent) := by
          unfold inB; simp [e]
        rw [this]; have := h2 ho b; simp; exact this
theorem inB_at {sf k0 : List Nat} {own : Bool} {L : List Ent} (h : WF sf k0 own L) {L1 L2 : List Ent} {e : Ent} (he : L = L1 ++ e :: L2) : inB e.b L = inB e.b L1 ++ e :: inB e.b L2 := by
  rw [he, inB_append]
  congr 1
  unfold inB
  rw [List.filter_cons, if_pos (by simp)]

theorem mem_inB {b : Nat} {L : List Ent} {e : Ent} (h : e ∈ inB b L) : e ∈ L ∧ e.b = b := by
  unfold inB at h
  have := List.mem_filter.1 h
  exact ⟨this.1, by simpa using this.2⟩
theorem map_getD (L : List Ent) (i : Nat) (e : Ent) (h : L[i]? = some e) : (L.map Ent.key).getD i [] = e.key := by
  rw [List.getD_eq_getElem?_getD, List.getElem?_map, h]; rfl

/-- where the first of the key's entries stands in its bucket -/
theorem first_none {sf k0 : List Nat} {own : Bool} {L : List Ent} (b : Nat) (h : ∀ j, j < (L.map Ent.key).length → (L.map Ent.key).getD j [] ≠ k0) : FirstAt ((inB b L).map Ent.key) k0 (-1) := by
  refine Or.inr ⟨rfl, fun j hj => ?_⟩
  rw [List.length_map] at hj
  have hm : (inB b L)[j] ∈ inB b L := List.getElem_mem hj
  obtain ⟨h1, _⟩ := mem_inB hm
  obtain ⟨i, hi, he⟩ := List.getElem_of_mem h1
  rw [map_getD (inB b L) j _ (List.getElem?_eq_getElem hj)]
  have := h i (by rw [List.length_map]; exact hi)
  rw [map_getD L i _ (List.getElem?_eq_getElem hi), he] at this
  exact this
theorem first_some_at {sf k0 : List Nat} {own : Bool} {L : List Ent} (hw : WF sf k0 own L) (i : Nat) (e : Ent) (hi : L[i]? = some e) (hk : e.key = k0) (h : ∀ j, j < i → (L.map Ent.key).getD j [] ≠ k0) :
    e.b = cplN sf k0 ∧ FirstAt ((inB (cplN sf k0) L).map Ent.key) k0 (e.pos : Int) ∧ (inB (cplN sf k0) L)[e.pos]? = some e := by
  have hlt := (List.getElem?_eq_some_iff.1 hi).1
  have hsp : L = L.take i ++ e :: L.drop (i + 1) := by
    have : L[i] = e := (List.getElem?_eq_some_iff.1 hi).2
    rw [← this, List.getElem_cons_drop, List.take_append_drop]
  obtain ⟨h1, h2, h3⟩ := hw.1 _ _ _ hsp
  have hb : e.b = cplN sf k0 := by rw [h2, hk]
  have hin : inB (cplN sf k0) L = inB e.b (L.take i) ++ e :: inB e.b (L.drop (i + 1)) := by
    rw [← hb]; exact inB_at hw hsp
  have hget : (inB (cplN sf k0) L)[e.pos]? = some e := by
    rw [hin, h1, List.getElem?_append_right (Nat.le_refl _), Nat.sub_self]; rfl
  refine ⟨hb, Or.inl ⟨e.pos, ?_, rfl, ?_, fun j hj => ?_⟩, hget⟩
  · rw [List.length_map]; exact (List.getElem?_eq_some_iff.1 hget).1
  · rw [map_getD _ _ e hget, hk]
  · have hj2 : j < (inB e.b (L.take i)).length := by omega
    have hg : (inB (cplN sf k0) L)[j]? = some ((inB e.b (L.take i))[j]) := by
      rw [hin, List.getElem?_append_left hj2, List.getElem?_eq_getElem hj2]
    rw [map_getD _ _ _ hg]
    obtain ⟨m1, _⟩ := mem_inB (List.getElem_mem hj2)
    obtain ⟨i', hi', he'⟩ := List.getElem_of_mem m1
    have hi2 : i' < i := by rw [List.length_take] at hi'; omega
    have := h i' hi2
    have hL : L[i']? = some ((inB e.b (L.take i))[j]) := by
      rw [← he', List.getElem_take, List.getElem?_eq_getElem (by omega)]
    rw [map_getD L i' _ hL] at this
    exact this
end Go.Proofs.Ybulkegxe
