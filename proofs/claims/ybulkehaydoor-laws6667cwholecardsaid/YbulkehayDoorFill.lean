import Derived.Test.YbulkehayDoorNth
import Derived.OpenShut
namespace Go.Proofs.YbulkehayDoor
open Go.RowKit

/-- a block of the call's own -/
def Row (w : World) (g : Nat) (t : TypeId) (xs : List Value) : Prop := w.heap[g]? = some (.cells xs.toArray t (0, 0))
theorem Row.held {w : World} {g : Nat} {t : TypeId} {xs : List Value} (h : Row w g t xs) : Held w g xs := by
  intro j v hj
  unfold Row at h
  simp [World.cell?, h, hj]
theorem Row.cell {w : World} {g : Nat} {t : TypeId} {xs : List Value} (h : Row w g t xs) (j : Nat) (v : Value) (hj : xs[j]? = some v) : w.cell? ⟨g, j, none⟩ = some v := h.held j v hj
theorem Row.frozen {w : World} {g : Nat} {t : TypeId} {xs : List Value} (h : Row w g t xs) (j : Nat) : w.frozen? ⟨g, j, none⟩ = false := by
  unfold Row at h
  simp [World.frozen?, h]
theorem Row.lt {w : World} {g : Nat} {t : TypeId} {xs : List Value} (h : Row w g t xs) : g < w.heap.size := (Array.getElem?_eq_some_iff.1 h).1
theorem Row.setCell {w : World} {g : Nat} {t : TypeId} {xs : List Value} (h : Row w g t xs) (j : Nat) (v : Value) : Row (w.setCell ⟨g, j, none⟩ v) g t (xs.set j v) := by
  unfold Row at h ⊢
  simp [World.setCell, Array.getElem?_modify, h]
theorem Row.setOther {w : World} {g : Nat} {t : TypeId} {xs : List Value} (h : Row w g t xs) (a : Addr) (v : Value) (ha : g ≠ a.block) : Row (w.setCell a v) g t xs := by
  unfold Row at h ⊢
  rw [Below.heap_setCell _ _ _ _ ha]; exact h
theorem Row.alloc {w : World} {g : Nat} {t : TypeId} {xs : List Value} (h : Row w g t xs) (o : Obj) : Row (w.alloc o) g t xs := by
  have hl := h.lt
  unfold Row at h ⊢
  rw [Below.heap_alloc _ _ _ hl]; exact h
theorem Row.drewN {w : World} {g : Nat} {t : TypeId} {xs : List Value} (h : Row w g t xs) (n : Nat) : Row (w.drewN n) g t xs := h
theorem Row.new (w : World) (t : TypeId) (a : Array Value) : Row (w.alloc (.cells a t)) w.heap.size t a.toList := by
  unfold Row
  rw [(MapKept.heap_alloc w _).1]
theorem Row.below {w w' : World} {g N : Nat} {t : TypeId} {xs : List Value} (h : Row w g t xs) (hb : Below N w w') (hg : g < N) : Row w' g t xs := by
  unfold Row at h ⊢
  rw [hb.block g hg]; exact h
theorem Held.below {w w' : World} {g N : Nat} {xs : List Value} (h : Held w g xs) (hb : Below N w w') (hg : g < N) : Held w' g xs := by
  intro j v hj
  have := h j v hj
  have e := hb.block g hg
  simp only [World.cell?, e] at this ⊢
  exact this

/-- W integers -/
def fill (W : Nat) (k : IntKind) (f : Nat → Int) : List Value := ints k ((List.range W).map f)
theorem fill_length (W : Nat) (k : IntKind) (f : Nat → Int) : (fill W k f).length = W := by simp [fill, ints]
theorem fill_get {W j : Nat} (k : IntKind) (f : Nat → Int) (h : j < W) : (fill W k f)[j]? = some (.int k (f j)) := by
  simp [fill, ints, List.getElem?_range h]
theorem fill_set (W i : Nat) (k : IntKind) (f : Nat → Int) (v : Int) : (fill W k f).set i (.int k v) = fill W k (fun j => if j = i then v else f j) := by
  apply List.ext_getElem?
  intro j
  by_cases hj : j < W
  · by_cases e : i = j
    · subst e; rw [List.getElem?_set_self (by rw [fill_length]; exact hj), fill_get _ _ hj, if_pos rfl]
    · rw [List.getElem?_set_ne e, fill_get _ _ hj, fill_get _ _ hj, if_neg (Ne.symm e)]
  · rw [List.getElem?_eq_none (by simp [fill_length]; omega), List.getElem?_eq_none (by rw [fill_length]; omega)]
theorem fill_congr {W : Nat} {k : IntKind} {f g : Nat → Int} (h : ∀ j, j < W → f j = g j) : fill W k f = fill W k g := by
  apply List.ext_getElem?
  intro j
  by_cases hj : j < W
  · rw [fill_get _ _ hj, fill_get _ _ hj, h j hj]
  · rw [List.getElem?_eq_none (by rw [fill_length]; omega), List.getElem?_eq_none (by rw [fill_length]; omega)]
theorem made_fill (k : IntKind) (W : Nat) : (madeCells #[.int k 0] W).toList = fill W k (fun _ => 0) := by
  apply List.ext_getElem?
  intro j
  by_cases hj : j < W
  · rw [fill_get _ _ hj]; simp [madeCells, hj, Nat.mod_one]
  · rw [List.getElem?_eq_none (by simp [madeCells]; omega), List.getElem?_eq_none (by rw [fill_length]; omega)]
theorem Row.made (w : World) (t : TypeId) (k : IntKind) (W : Nat) : Row (w.alloc (.cells (madeCells #[.int k 0] W) t)) w.heap.size t (fill W k (fun _ => 0)) := by
  have := Row.new w t (madeCells #[.int k 0] W)
  rw [made_fill] at this; exact this

/-- the argument's slice -/
def Raw (w : World) (a : Option Addr) (l : Nat) (z : List Int) : Prop :=
  AllU z ∧ z.length = l ∧ l ≤ 9223372036854775807 ∧ (l = 0 ∨ ∃ b off, a = some ⟨b, off, none⟩ ∧ b < w.heap.size ∧ ∀ j, j < z.length → w.cell? ⟨b, off + j, none⟩ = some (.int .u64 (z.getD j 0)))
theorem Raw.below {w w' : World} {a : Option Addr} {l N : Nat} {z : List Int} (h : Raw w a l z) (hb : Below N w w') (hN : w.heap.size ≤ N) : Raw w' a l z := by
  obtain ⟨h1, h2, h3, h4⟩ := h
  refine ⟨h1, h2, h3, ?_⟩
  rcases h4 with h4 | ⟨b, off, h5, h6, h7⟩
  · exact Or.inl h4
  · have e := hb.block b (by omega)
    refine Or.inr ⟨b, off, h5, ?_, fun j hj => ?_⟩
    · have h0 : b < w.heap.size := h6
      rw [Array.getElem?_eq_getElem h0] at e
      exact (Array.getElem?_eq_some_iff.1 e).1
    · have := h7 j hj
      simp only [World.cell?, e] at this ⊢
      exact this
theorem word_any {w : World} {a : Option Addr} {l : Nat} {z : List Int} (h : Raw w a l z) (c k n : Nat) (hk : 64 * k < n) (hn : n ≤ 6200) :
    Calls Ybad.prog 4 #[.slice a l c, .int .i64 (k : Int), .int .i64 (n : Int)] w fun e w' => e = .returned (.int .u64 (wordOf z k n : Nat)) ∧ w' = w := by
  obtain ⟨h1, h2, h3, h4⟩ := h
  by_cases hl : l = 0
  · subst hl
    refine (word_none a c k n w).mono ?_
    rintro e w' ⟨rfl, rfl⟩
    refine ⟨?_, rfl⟩
    rw [wordOf, if_pos h2]; rfl
  · rcases h4 with h4 | ⟨b, off, rfl, h6, h7⟩
    · exact absurd h4 hl
    · exact word_some b off l c k n z h2 h1 (by omega) h3 hk hn w h7

end Go.Proofs.YbulkehayDoor
