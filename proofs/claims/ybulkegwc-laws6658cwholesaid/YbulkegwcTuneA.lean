import Derived.Test.YbulkegwcRoom
namespace Go.Proofs.Ybulkegwc
open Go.RowKit

theorem World.ext_heap (w : World) (h1 h2 : Array Obj) (h : h1 = h2) : ({ w with heap := h1 } : World) = { w with heap := h2 } := by rw [h]

theorem setCell_twice (w : World) (p o : Nat) (u v : Value) : (w.setCell ⟨p, o, none⟩ u).setCell ⟨p, o, none⟩ v = w.setCell ⟨p, o, none⟩ v := by
  unfold World.setCell
  apply World.ext_heap
  apply Array.ext
  · simp
  · intro i h1 h2
    simp only [Array.getElem_modify]
    split
    · cases w.heap[i]'(by simpa using h2) <;> simp
    · rfl
theorem setCell_comm (w : World) (p o1 o2 : Nat) (u v : Value) (h : o1 ≠ o2) : (w.setCell ⟨p, o1, none⟩ u).setCell ⟨p, o2, none⟩ v = (w.setCell ⟨p, o2, none⟩ v).setCell ⟨p, o1, none⟩ u := by
  unfold World.setCell
  apply World.ext_heap
  apply Array.ext
  · simp
  · intro i h1 h2
    simp only [Array.getElem_modify]
    split
    · cases w.heap[i]'(by simpa using h2) <;> simp
      rw [Array.setIfInBounds_comm _ _ h]
    · rfl

theorem setChan_setCell (w : World) (p o c cap : Nat) (buf : Array Value) (cl : Bool) (s r : Nat) (tm : Bool) (v : Value) (h : ¬ c = p) : (w.setChan c cap buf cl s r tm).setCell ⟨p, o, none⟩ v = (w.setCell ⟨p, o, none⟩ v).setChan c cap buf cl s r tm := by
  unfold World.setCell World.setChan
  apply World.ext_heap
  apply Array.ext_getElem?
  intro i
  by_cases e : c = i
  · subst e
    rw [Array.getElem?_modify, if_neg (fun h' => h h'.symm)]
    by_cases hc : c < w.heap.size
    · simp [hc]
    · simp [hc]
  · rw [Array.getElem?_modify, Array.getElem?_setIfInBounds_ne e, Array.getElem?_setIfInBounds_ne e, Array.getElem?_modify]
theorem cell_setChan (w : World) (p o c cap : Nat) (buf : Array Value) (cl : Bool) (s r : Nat) (tm : Bool) (h : ¬ c = p) : (w.setChan c cap buf cl s r tm).cell? ⟨p, o, none⟩ = w.cell? ⟨p, o, none⟩ := by
  refine World.cell?_of_block ?_
  simp only [World.setChan]; rw [Array.getElem?_setIfInBounds_ne h]
theorem frozen_setChan (w : World) (p o c cap : Nat) (buf : Array Value) (cl : Bool) (s r : Nat) (tm : Bool) (h : ¬ c = p) : (w.setChan c cap buf cl s r tm).frozen? ⟨p, o, none⟩ = w.frozen? ⟨p, o, none⟩ := by
  refine World.frozen?_of_block ?_
  simp only [World.setChan]; rw [Array.getElem?_setIfInBounds_ne h]

set_option maxRecDepth 100000 in
set_option maxHeartbeats 800000 in
theorem tune_noop (w : World) (p ob : Nat) (cap size : Int) (pre : Bool) (c0 : w.cell? ⟨p, 0, none⟩ = some (.int .i64 cap)) (c1 : w.cell? ⟨p, 1, none⟩ = some (.pointer (some ⟨ob, 0, none⟩))) (o6 : w.cell? ⟨ob, 6, none⟩ = some (.bool pre))
    (c9 : w.cell? ⟨p, 9, none⟩ = some (.int .i32 0)) (f : ∀ o, w.frozen? ⟨p, o, none⟩ = false) (h : cap < 0 ∨ pre = true ∨ size ≤ 0 ∨ size = cap) :
    Calls Yba.prog 15 #[.pointer (some ⟨p, 0, none⟩), .int .i64 size] w fun e w' => e = .returned (.tuple #[]) ∧ w' = w := by
  have f9 := f 9
  have h1 := lock_free p 9 w c9 f9
  have h2 := cap_any (w.setCell ⟨p, 9, none⟩ (.int .i32 1)) p cap ((World.cell?_setCell_other w ⟨p, 9, none⟩ ⟨p, 0, none⟩ _ (by simp)).trans c0)
  have fin : Calls Yba.prog 15 #[.pointer (some ⟨p, 0, none⟩), .int .i64 size] w fun e w' => e = .returned (.tuple #[]) ∧ w' = (w.setCell ⟨p, 9, none⟩ (.int .i32 1)).setCell ⟨p, 9, none⟩ (.int .i32 0) := by
    have h3 := unlock_deferred p 9 (w.setCell ⟨p, 9, none⟩ (.int .i32 1)) .returning (World.cell?_setCell_same w ⟨p, 9, none⟩ _ c9) (by simp [f9])
    clear f
    by_cases q1 : cap < 0
    · clear h
      go_enter_defers Yba.func15, Yba.ntmps15
      go_wp2_with (first | (go_at_call 27; refine h1.mono ?_; rintro e w' ⟨rfl, rfl⟩) | (go_at_call 28; refine h2.mono ?_; rintro e w' ⟨rfl, rfl⟩))
      refine leaves_cons (f := 20) (args := #[.pointer (some ⟨p, 9, none⟩)]) (by simp) (by simp [go_sem]) ?_
      refine h3.mono ?_
      rintro e u' w'' ⟨rfl, rfl, rfl⟩
      exact ⟨_, results_none rfl _ _ _, rfl, rfl⟩
    cases pre
    · by_cases q2 : size ≤ 0
      · clear h
        go_enter_defers Yba.func15, Yba.ntmps15
        go_wp2_with (first | (go_at_call 27; refine h1.mono ?_; rintro e w' ⟨rfl, rfl⟩) | (go_at_call 28; refine h2.mono ?_; rintro e w' ⟨rfl, rfl⟩))
        refine leaves_cons (f := 20) (args := #[.pointer (some ⟨p, 9, none⟩)]) (by simp) (by simp [go_sem]) ?_
        refine h3.mono ?_
        rintro e u' w'' ⟨rfl, rfl, rfl⟩
        exact ⟨_, results_none rfl _ _ _, rfl, rfl⟩
      · obtain rfl : size = cap := by
          rcases h with h | h | h | h
          · omega
          · cases h
          · omega
          · exact h
        clear h
        go_enter_defers Yba.func15, Yba.ntmps15
        go_wp2_with (first | (go_at_call 27; refine h1.mono ?_; rintro e w' ⟨rfl, rfl⟩) | (go_at_call 28; refine h2.mono ?_; rintro e w' ⟨rfl, rfl⟩))
        refine leaves_cons (f := 20) (args := #[.pointer (some ⟨p, 9, none⟩)]) (by simp) (by simp [go_sem]) ?_
        refine h3.mono ?_
        rintro e u' w'' ⟨rfl, rfl, rfl⟩
        exact ⟨_, results_none rfl _ _ _, rfl, rfl⟩
    · clear h
      go_enter_defers Yba.func15, Yba.ntmps15
      go_wp2_with (first | (go_at_call 27; refine h1.mono ?_; rintro e w' ⟨rfl, rfl⟩) | (go_at_call 28; refine h2.mono ?_; rintro e w' ⟨rfl, rfl⟩))
      refine leaves_cons (f := 20) (args := #[.pointer (some ⟨p, 9, none⟩)]) (by simp) (by simp [go_sem]) ?_
      refine h3.mono ?_
      rintro e u' w'' ⟨rfl, rfl, rfl⟩
      exact ⟨_, results_none rfl _ _ _, rfl, rfl⟩
  refine fin.mono ?_
  rintro e w' ⟨rfl, rfl⟩
  exact ⟨rfl, by rw [setCell_twice, setCell_self w p 9 _ c9]⟩

set_option maxRecDepth 100000 in
set_option maxHeartbeats 800000 in
theorem tune_grow (w : World) (p ob ch : Nat) (cap size wt : Int) (of : Bool) (c0 : w.cell? ⟨p, 0, none⟩ = some (.int .i64 cap)) (c1 : w.cell? ⟨p, 1, none⟩ = some (.pointer (some ⟨ob, 0, none⟩))) (o6 : w.cell? ⟨ob, 6, none⟩ = some (.bool false))
    (c6 : w.cell? ⟨p, 6, none⟩ = some (.int .i32 wt)) (c7 : w.cell? ⟨p, 7, none⟩ = some (.chan (some ch))) (c8 : w.cell? ⟨p, 8, none⟩ = some (.int .u32 (bi of)))
    (hch : w.heap[ch]? = some (.chan 1 #[] false 0 0 false)) (hcp : ¬ ch = p)
    (c9 : w.cell? ⟨p, 9, none⟩ = some (.int .i32 0)) (f : ∀ o, w.frozen? ⟨p, o, none⟩ = false) (q1 : 0 ≤ cap) (q2 : cap < size) :
    Calls Yba.prog 15 #[.pointer (some ⟨p, 0, none⟩), .int .i64 size] w fun e w' => e = .returned (.tuple #[]) ∧
      ((wt = 0 ∨ of = true) ∧ w' = w.setCell ⟨p, 0, none⟩ (.int .i64 size) ∨ (¬ wt = 0 ∧ of = false) ∧ ∃ n, w' = (((w.setCell ⟨p, 0, none⟩ (.int .i64 size)).setCell ⟨p, 8, none⟩ (.int .u32 1)).drewN n).setChan ch 1 #[.agg #[]] false 1 0 false) := by
  have f9 := f 9
  have f8 := f 8
  have f0 := f 0
  have h1 := lock_free p 9 w c9 f9
  have d0 : (w.setCell ⟨p, 9, none⟩ (.int .i32 1)).cell? ⟨p, 0, none⟩ = some (.int .i64 cap) := (World.cell?_setCell_other w ⟨p, 9, none⟩ ⟨p, 0, none⟩ _ (by simp)).trans c0
  have h2 := cap_any (w.setCell ⟨p, 9, none⟩ (.int .i32 1)) p cap d0
  have h4 := i64_store p 0 (w.setCell ⟨p, 9, none⟩ (.int .i32 1)) _ size d0 (by simp [f0])
  have g0 : decide (cap < 0) = false := by simp; omega
  have g1 : decide (size ≤ 0) = false := by simp; omega
  have g2 : (size == cap) = false := by simp; omega
  clear f
  have e6 : ((w.setCell ⟨p, 9, none⟩ (.int .i32 1)).setCell ⟨p, 0, none⟩ (.int .i64 size)).cell? ⟨p, 6, none⟩ = some (.int .i32 wt) := by
    rw [World.cell?_setCell_other _ ⟨p, 0, none⟩ ⟨p, 6, none⟩ _ (by simp), World.cell?_setCell_other _ ⟨p, 9, none⟩ ⟨p, 6, none⟩ _ (by simp)]; exact c6
  have e7 : ((w.setCell ⟨p, 9, none⟩ (.int .i32 1)).setCell ⟨p, 0, none⟩ (.int .i64 size)).cell? ⟨p, 7, none⟩ = some (.chan (some ch)) := by
    rw [World.cell?_setCell_other _ ⟨p, 0, none⟩ ⟨p, 7, none⟩ _ (by simp), World.cell?_setCell_other _ ⟨p, 9, none⟩ ⟨p, 7, none⟩ _ (by simp)]; exact c7
  have e8 : ((w.setCell ⟨p, 9, none⟩ (.int .i32 1)).setCell ⟨p, 0, none⟩ (.int .i64 size)).cell? ⟨p, 8, none⟩ = some (.int .u32 (bi of)) := by
    rw [World.cell?_setCell_other _ ⟨p, 0, none⟩ ⟨p, 8, none⟩ _ (by simp), World.cell?_setCell_other _ ⟨p, 9, none⟩ ⟨p, 8, none⟩ _ (by simp)]; exact c8
  have e9 : ((w.setCell ⟨p, 9, none⟩ (.int .i32 1)).setCell ⟨p, 0, none⟩ (.int .i64 size)).cell? ⟨p, 9, none⟩ = some (.int .i32 1) := by
    rw [World.cell?_setCell_other _ ⟨p, 0, none⟩ ⟨p, 9, none⟩ _ (by simp)]; exact World.cell?_setCell_same w ⟨p, 9, none⟩ _ c9
  have ech : ((w.setCell ⟨p, 9, none⟩ (.int .i32 1)).setCell ⟨p, 0, none⟩ (.int .i64 size)).heap[ch]? = some (.chan 1 #[] false 0 0 false) := by
    rw [Below.heap_setCell _ _ _ _ hcp, Below.heap_setCell _ _ _ _ hcp]; exact hch
  by_cases hw : wt = 0 ∨ of = true
  · have h5 := offer_not ((w.setCell ⟨p, 9, none⟩ (.int .i32 1)).setCell ⟨p, 0, none⟩ (.int .i64 size)) p wt of e6 e8 hw
    have h3 := unlock_deferred p 9 ((w.setCell ⟨p, 9, none⟩ (.int .i32 1)).setCell ⟨p, 0, none⟩ (.int .i64 size)) .returning e9 (by simp [f9])
    have HW : Hid (wt = 0 ∨ of = true) := hw
    clear e6 e7 e8 e9 ech hw c6 c7 c8
    go_enter_defers Yba.func15, Yba.ntmps15
    go_wp2_with (first | (go_at_call 27; refine h1.mono ?_; rintro e w' ⟨rfl, rfl⟩) | (go_at_call 28; refine h2.mono ?_; rintro e w' ⟨rfl, rfl⟩) | (go_at_call 10; refine h4.mono ?_; rintro e w' ⟨rfl, rfl⟩) | (go_at_call 29; refine h5.mono ?_; rintro e w' ⟨rfl, rfl⟩))
    refine leaves_cons (f := 20) (args := #[.pointer (some ⟨p, 9, none⟩)]) (by simp) (by simp [go_sem]) ?_
    refine h3.mono ?_
    rintro e u' w'' ⟨rfl, rfl, rfl⟩
    refine ⟨_, results_none rfl _ _ _, rfl, .inl ⟨HW.out, ?_⟩⟩
    rw [setCell_comm _ p 0 9 _ _ (by omega), setCell_twice, setCell_self w p 9 _ c9]
  · have hw1 : ¬ wt = 0 := fun h => hw (.inl h)
    have hw2 : of = false := by cases of; rfl; exact absurd (.inr rfl) hw
    subst hw2
    have h5 := offer_yes ((w.setCell ⟨p, 9, none⟩ (.int .i32 1)).setCell ⟨p, 0, none⟩ (.int .i64 size)) p ch wt e6 e8 (by simp [f8]) hw1 e7 ech hcp
    have HW : Hid (¬ wt = 0) := hw1
    clear e6 e7 ech hw c6 c7 hw1
    go_enter_defers Yba.func15, Yba.ntmps15
    go_wp2_with (first | (go_at_call 27; refine h1.mono ?_; rintro e w' ⟨rfl, rfl⟩) | (go_at_call 28; refine h2.mono ?_; rintro e w' ⟨rfl, rfl⟩) | (go_at_call 10; refine h4.mono ?_; rintro e w' ⟨rfl, rfl⟩) | (go_at_call 29; refine h5.mono ?_; rintro e w' ⟨rfl, n, rfl⟩))
    refine leaves_cons (f := 20) (args := #[.pointer (some ⟨p, 9, none⟩)]) (by simp) (by simp [go_sem]) ?_
    refine (unlock_deferred p 9 _ .returning ?_ ?_).mono ?_
    · rw [cell_setChan _ _ _ _ _ _ _ _ _ _ hcp, World.cell?_drewN, World.cell?_setCell_other _ ⟨p, 8, none⟩ ⟨p, 9, none⟩ _ (by simp)]; exact e9
    · rw [frozen_setChan _ _ _ _ _ _ _ _ _ _ hcp]; simp [f9]
    rintro e u' w'' ⟨rfl, rfl, rfl⟩
    refine ⟨_, results_none rfl _ _ _, rfl, .inr ⟨⟨HW.out, trivial⟩, n, ?_⟩⟩
    rw [setChan_setCell _ _ _ _ _ _ _ _ _ _ _ hcp]
    congr 1
    show ((((w.setCell ⟨p, 9, none⟩ (.int .i32 1)).setCell ⟨p, 0, none⟩ (.int .i64 size)).setCell ⟨p, 8, none⟩ (.int .u32 1)).setCell ⟨p, 9, none⟩ (.int .i32 0)).drewN n = _
    congr 1
    rw [setCell_comm _ p 8 9 _ _ (by omega), setCell_comm _ p 0 9 _ _ (by omega), setCell_twice, setCell_self w p 9 _ c9]
end Go.Proofs.Ybulkegwc
