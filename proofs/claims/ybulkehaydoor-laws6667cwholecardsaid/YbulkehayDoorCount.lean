import Derived.Test.YbulkehayDoorFill
namespace Go.Proofs.YbulkehayDoor
open Go.RowKit

/-- a pieceCount's cells over the places below i -/
def cntRow (B : Nat → Bool) (i c : Nat) : Nat := if c = 0 then cnt B i else inChunk B i (c - 1)
theorem cntRow_zero (B : Nat → Bool) (c : Nat) : cntRow B 0 c = 0 := by
  unfold cntRow; split
  · rfl
  · exact inChunk_zero _ _
theorem cntRow_off {B : Nat → Bool} {i : Nat} (h : B i = false) : cntRow B (i + 1) = cntRow B i := by
  funext c
  unfold cntRow
  split
  · simp [cnt, h]
  · rw [inChunk_step, h]; simp
theorem cntRow_on {B : Nat → Bool} {i : Nat} (h : B i = true) (c : Nat) : cntRow B (i + 1) c = if c = 1 + i / 2048 then cntRow B i c + 1 else if c = 0 then cntRow B i 0 + 1 else cntRow B i c := by
  unfold cntRow
  by_cases e : c = 0
  · subst e
    have h0 : ¬ (0 = 1 + i / 2048) := by omega
    simp only [if_true, if_neg h0, cnt, h, Bool.toNat_true]
  · rw [if_neg e, if_neg e, inChunk_step, h]
    by_cases e2 : c = 1 + i / 2048
    · rw [if_pos e2, if_pos (by omega)]; rfl
    · rw [if_neg e2, if_neg (by omega), if_neg e]; rfl
theorem cntRow_le (B : Nat → Bool) (i c : Nat) : cntRow B i c ≤ i := by
  unfold cntRow; split
  · exact cnt_le _ _
  · exact inChunk_le _ _ _

def crow (wd : Nat) (B : Nat → Bool) (i : Nat) : List Value := fill wd .i32 (fun c => (cntRow B i c : Int))
theorem crow_off {wd : Nat} {B : Nat → Bool} {i : Nat} (h : B i = false) : crow wd B (i + 1) = crow wd B i := by
  unfold crow; rw [cntRow_off h]
theorem crow_on {wd : Nat} {B : Nat → Bool} {i : Nat} (h : B i = true) : crow wd B (i + 1) = ((crow wd B i).set 0 (.int .i32 ((cntRow B i 0 : Int) + 1))).set (1 + i / 2048) (.int .i32 ((cntRow B i (1 + i / 2048) : Int) + 1)) := by
  unfold crow
  rw [fill_set, fill_set]
  apply fill_congr
  intro j _
  rw [cntRow_on h]
  by_cases e : j = 1 + i / 2048
  · subst e; simp
  · rw [if_neg e, if_neg e]
    by_cases e2 : j = 0
    · subst e2; simp
    · rw [if_neg e2, if_neg e2]
theorem Row.bump {w : World} {g wd : Nat} {B : Nat → Bool} {i : Nat} (h : Row w g 21 (crow wd B i)) (hB : B i = true) :
    Row ((w.setCell ⟨g, 0, none⟩ (.int .i32 ((cntRow B i 0 : Int) + 1))).setCell ⟨g, 1 + i / 2048, none⟩ (.int .i32 ((cntRow B i (1 + i / 2048) : Int) + 1))) g 21 (crow wd B (i + 1)) := by
  rw [crow_on hB]
  exact (h.setCell _ _).setCell _ _
theorem Row.crow0 (w : World) (wd : Nat) (B : Nat → Bool) : Row (w.alloc (.cells (madeCells #[.int .i32 0] wd) 21)) w.heap.size 21 (crow wd B 0) := by
  have := Row.made w 21 .i32 wd
  have e : crow wd B 0 = fill wd .i32 (fun _ => 0) := fill_congr (fun j _ => by rw [cntRow_zero]; rfl)
  rw [e]; exact this
end Go.Proofs.YbulkehayDoor
