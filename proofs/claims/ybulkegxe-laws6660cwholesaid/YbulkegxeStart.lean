import Derived.Test.YbulkegxeLay
namespace Go.Proofs.Ybulkegxe
open Go.RowKit Go.Lib
set_option linter.unusedVariables false
theorem there_new (W : World) (c : Array Value) (t : TypeId) : (W.alloc (.cells c t)).there W.heap.size 0 c.size := by
  intro j hj
  rw [Nat.zero_add]
  refine ⟨?_, ?_⟩
  · simp only [World.cell?, heap_alloc_new]; simp [hj]
  · simp only [World.frozen?, heap_alloc_new]; simp
theorem lay1_start (w : World) (sf k : List Nat) (n : Nat) (wA : World) (A3 A4 A5 A6 : Array Value) (hA3 : A3.size = n * 32) (hA4 : A4.size = n * 1) (hA5 : A5.size = n * 1) (hA6 : A6.size = n * 8)
    (h : wA = (((((((w.alloc (.cells (kcells sf) 28)).alloc (.cells (kcells k) 28)).alloc (.cells (kcells k) 29)).alloc (.cells A3 29)).alloc (.cells A4 3)).alloc (.cells A5 3)).alloc (.cells A6 64)).alloc (.cells zero257 57)) :
    Lay1 w wA sf k n [] [] [] [] [] := by
  obtain ⟨w1, h1⟩ : ∃ x, x = w.alloc (.cells (kcells sf) 28) := ⟨_, rfl⟩
  obtain ⟨w2, h2⟩ : ∃ x, x = w1.alloc (.cells (kcells k) 28) := ⟨_, rfl⟩
  obtain ⟨w3, h3⟩ : ∃ x, x = w2.alloc (.cells (kcells k) 29) := ⟨_, rfl⟩
  obtain ⟨w4, h4⟩ : ∃ x, x = w3.alloc (.cells A3 29) := ⟨_, rfl⟩
  obtain ⟨w5, h5⟩ : ∃ x, x = w4.alloc (.cells A4 3) := ⟨_, rfl⟩
  obtain ⟨w6, h6⟩ : ∃ x, x = w5.alloc (.cells A5 3) := ⟨_, rfl⟩
  obtain ⟨w7, h7⟩ : ∃ x, x = w6.alloc (.cells A6 64) := ⟨_, rfl⟩
  rw [← h1, ← h2, ← h3, ← h4, ← h5, ← h6, ← h7] at h
  have s1 : w1.heap.size = w.heap.size + 1 := by rw [h1]; simp
  have s2 : w2.heap.size = w.heap.size + 2 := by rw [h2]; simp [s1]
  have s3 : w3.heap.size = w.heap.size + 3 := by rw [h3]; simp [s2]
  have s4 : w4.heap.size = w.heap.size + 4 := by rw [h4]; simp [s3]
  have s5 : w5.heap.size = w.heap.size + 5 := by rw [h5]; simp [s4]
  have s6 : w6.heap.size = w.heap.size + 6 := by rw [h6]; simp [s5]
  have s7 : w7.heap.size = w.heap.size + 7 := by rw [h7]; simp [s6]
  have s8 : wA.heap.size = w.heap.size + 8 := by rw [h]; simp [s7]
  have b8 : Below w7.heap.size w7 wA := by rw [h]; exact (Below.refl _ _).alloc (Nat.le_refl _) _
  have b7 : Below w6.heap.size w6 wA := by
    have : Below w6.heap.size w6 w7 := by rw [h7]; exact (Below.refl _ _).alloc (Nat.le_refl _) _
    exact this.trans (b8.mono this.size)
  have b6 : Below w5.heap.size w5 wA := by
    have : Below w5.heap.size w5 w6 := by rw [h6]; exact (Below.refl _ _).alloc (Nat.le_refl _) _
    exact this.trans (b7.mono this.size)
  have b5 : Below w4.heap.size w4 wA := by
    have : Below w4.heap.size w4 w5 := by rw [h5]; exact (Below.refl _ _).alloc (Nat.le_refl _) _
    exact this.trans (b6.mono this.size)
  have b4 : Below w3.heap.size w3 wA := by
    have : Below w3.heap.size w3 w4 := by rw [h4]; exact (Below.refl _ _).alloc (Nat.le_refl _) _
    exact this.trans (b5.mono this.size)
  have b3 : Below w2.heap.size w2 wA := by
    have : Below w2.heap.size w2 w3 := by rw [h3]; exact (Below.refl _ _).alloc (Nat.le_refl _) _
    exact this.trans (b4.mono this.size)
  have b2 : Below w1.heap.size w1 wA := by
    have : Below w1.heap.size w1 w2 := by rw [h2]; exact (Below.refl _ _).alloc (Nat.le_refl _) _
    exact this.trans (b3.mono this.size)
  have b1 : Below w.heap.size w wA := by
    have : Below w.heap.size w w1 := by rw [h1]; exact (Below.refl _ _).alloc (Nat.le_refl _) _
    exact this.trans (b2.mono this.size)
  have q1 : KeyAt w1 w.heap.size 0 sf := by rw [h1]; exact KeyAt.new w sf 28
  have q3 : KeyAt w3 (w.heap.size + 2) 0 k := by rw [h3, ← s2]; exact KeyAt.new w2 k 29
  have r4 : w4.there (w.heap.size + 3) 0 (n * 32) := by
    have := there_new w3 A3 29
    rw [← h4, s3, hA3] at this; exact this
  have r5 : w5.there (w.heap.size + 4) 0 n := by
    have := there_new w4 A4 3
    rw [← h5, s4, hA4, Nat.mul_one] at this; exact this
  have r6 : w6.there (w.heap.size + 5) 0 n := by
    have := there_new w5 A5 3
    rw [← h6, s5, hA5, Nat.mul_one] at this; exact this
  have r7 : w7.there (w.heap.size + 6) 0 (n * 8) := by
    have := there_new w6 A6 64
    rw [← h7, s6, hA6] at this; exact this
  have r8 : wA.there (w.heap.size + 7) 0 257 := by
    have := there_new w7 zero257 57
    rw [← h, s7] at this
    simpa [zero257] using this
  exact {
    s0 := q1.below b2 (by omega)
    k2 := q3.below b4 (by omega)
    keys := fun i e he => by simp at he
    bks := fun i e he => by simp at he
    poss := fun i e he => by simp at he
    recs := fun i e he => by simp at he
    cnts := fun b hb => by
      rw [h, ← s7]
      simp only [World.cell?, heap_alloc_new]
      have : zero257[b]? = some (.int .i64 0) := by unfold zero257; rw [Array.getElem?_replicate, if_pos (by omega)]
      rw [this]; rfl
    tK := there_below r4 b5 (by omega)
    tB := there_below r5 b6 (by omega)
    tP := there_below r6 b7 (by omega)
    tR := there_below r7 b8 (by omega)
    tC := r8
    bel := b1
    sz := by omega }

theorem make_some (t e : TypeId) (n sz by' : Nat) (ht : Yba.prog.underlying t = some (.slice e)) (hi : (Yba.prog.info? e).map (fun i => (i.zero.isSome, i.size, i.bytes)) = some (true, sz, by')) (hb : by' ≤ 100) (hn : n ≤ 65536) :
    ∃ A : Array Value, A.size = n * sz ∧ ∀ w : World, (Instr.makeSlice t (.int .i64 0) (.int .i64 (n : Int))).run Yba.prog w = .ok (.slice (some ⟨w.heap.size, 0, none⟩) 0 n) (w.alloc (.cells A e)) := by
  obtain ⟨i, hi, hzz⟩ := Option.map_eq_some_iff.1 hi
  simp only [Prod.mk.injEq] at hzz
  obtain ⟨hz0, hz1, hz2⟩ := hzz
  obtain ⟨z, hz⟩ := Option.isSome_iff_exists.1 hz0
  have h1 : (by' : Int) * (n : Int) ≤ 100 * 65536 := by
    have : by' * n ≤ 100 * 65536 := Nat.mul_le_mul hb hn
    omega
  refine ⟨madeCells z.cells (n * sz), size_madeCells _ _, fun w => ?_⟩
  have := run_make (P := Yba.prog) w t e i z ht hi hz .i64 .i64 0 n (by omega) (by omega) (by rw [hz2]; omega) (by omega)
  rw [this, hz1]
  rfl
theorem Yba.zero29 : (Yba.prog.info? 29).map (fun i => (i.zero.isSome, i.size, i.bytes)) = some (true, 32, 32) := by kernel_rfl
theorem Yba.zero3 : (Yba.prog.info? 3).map (fun i => (i.zero.isSome, i.size, i.bytes)) = some (true, 1, 8) := by kernel_rfl
theorem Yba.zero64 : (Yba.prog.info? 64).map (fun i => (i.zero.isSome, i.size, i.bytes)) = some (true, 8, 56) := by kernel_rfl
theorem hide {p : Prop} (h : p) : Hid p := h
end Go.Proofs.Ybulkegxe
