import Derived.Test.YbulkegxeRows
import Derived.WalkKit
import Derived.WalkSpells
import Derived.WalkLawsBesides
import Derived.Defers
namespace Go.Proofs.Ybulkegxe
open Go.RowKit

theorem Yba.info5 : (Yba.prog.info? 5).map (fun i => (i.zero, i.size, i.bytes)) = some (some (.int .u8 0), 1, 1) := by kernel_rfl

/-- what a call of the stand-in lock leaves: one byte more in its log -/
def Logged (base l : Nat) (n : Nat) (xs : List Value) (w w' : World) : Prop :=
  ∃ v', w'.heap[l]? = some (.cells #[v'] 26 (0, 0)) ∧ w'.ownsRow base 5 1 v' n xs ∧ (∀ k, k < base → k ≠ l → w'.heap[k]? = w.heap[k]?) ∧ base ≤ w'.heap.size ∧ w.heap.size ≤ w'.heap.size ∧ w'.os = w.os ∧ w'.tape = w.tape ∧ w'.output = w.output

theorem logged_of {base l n : Nat} {xs : List Value} {w w1 : World} {v v' : Value} {c : Value} (hl : w.heap[l]? = some (.cells #[v] 26 (0, 0))) (hlb : l < base) (hbase : base ≤ w.heap.size)
    (hnr : ∀ k, v.ownBlock = some k → base ≤ k)
    (hown : w1.ownsRow base 5 1 v' n xs) (hgrow : (w.alloc (.cells #[c] 5)).grownBy w1 v.ownBlock) : Logged base l n xs w (w1.setCell ⟨l, 0, none⟩ v') := by
  have hk : ∀ k, k < base → w1.heap[k]? = w.heap[k]? := by
    intro k hk
    rw [hgrow.block k (by simp; omega) (fun h => by have := hnr k h.symm; omega), Below.heap_alloc _ _ _ (by omega)]
  have hsz := hgrow.size
  simp at hsz
  refine ⟨v', ?_, ownsRow_setCell_below hown hlb _, ?_, ?_, ?_, hgrow.os, hgrow.tape, hgrow.output⟩
  · have := (hk l hlb).trans hl
    simp [World.setCell, Array.getElem?_modify, this]
  · intro k h1 h2
    rw [Below.heap_setCell _ _ _ _ h2]; exact hk k h1
  · simp [World.setCell]; omega
  · simp [World.setCell]; omega

theorem ownBlock_ge {base n : Nat} {xs : List Value} {w : World} {v : Value} (hown : w.ownsRow base 5 1 v n xs) : ∀ k, v.ownBlock = some k → base ≤ k := by
  intro k hk
  obtain ⟨_, h | ⟨g, cap, cur, hv, hg, _⟩⟩ := hown
  · rw [h.1] at hk; simp [Value.ownBlock] at hk
  · rw [hv] at hk; simp [Value.ownBlock] at hk; omega

theorem slice_of {base n : Nat} {xs : List Value} {w : World} {v : Value} (hown : w.ownsRow base 5 1 v (n + 1) xs) : ∃ g cap, v = .slice (some ⟨g, 0, none⟩) (n + 1) cap := by
  obtain ⟨_, h | ⟨g, cap, cur, hv, _⟩⟩ := hown
  · omega
  · exact ⟨g, cap, hv⟩

set_option maxRecDepth 100000 in
set_option maxHeartbeats 800000 in
theorem lock_any (base l n : Nat) (xs : List Value) (v : Value) (w : World) (hl : w.heap[l]? = some (.cells #[v] 26 (0, 0))) (hlb : l < base) (hbase : base ≤ w.heap.size) (hown : w.ownsRow base 5 1 v n xs) (hn : n ≤ 1000) :
    Calls Yba.prog 42 #[.pointer (some ⟨l, 0, none⟩)] w fun e w' => e = .returned (.tuple #[]) ∧ Logged base l (n + 1) (xs ++ [.int .u8 76]) w w' := by
  have c0 : w.cell? ⟨l, 0, none⟩ = some v := by simp [World.cell?, hl]
  have f0 : w.frozen? ⟨l, 0, none⟩ = false := by simp [World.frozen?, hl]
  obtain ⟨j0, hi, hz0, hz1, hz2⟩ := info_parts Yba.info5
  have hnr := ownBlock_ge hown
  have ho := hown.alloc (.cells #[.int .u8 76] 5)
  go_enter Yba.func42, Yba.ntmps42
  go_wp2_with (at_builtin; refine wpList_append_own _ rfl _ _ 24 rfl base 5 j0 (.int .u8 0) 1 1 Yba.underlying24 hi hz0 hz1 hz2 rfl (by decide) _ _ _ rfl ho ⟨w.heap.size, 0, none⟩ 1 1 [.int .u8 76] rfl rfl ?c1 ?c2 ?c3 ?c4 ?c5 ?_)
  case c1 => exact cell_one_new _ _ _
  case c2 => intro u hu; simp at hu; subst hu; rfl
  case c3 => unfold maxLen; omega
  case c4 => omega
  case c5 => simp; omega
  intro v' w1 hown' hgrow _
  have hk : w1.heap[l]? = some (.cells #[v] 26 (0, 0)) := by
    rw [hgrow.block l (by simp; omega) (fun h => by have := hnr l h.symm; omega), Below.heap_alloc _ _ _ (by omega)]; exact hl
  have d0 : w1.cell? ⟨l, 0, none⟩ = some v := by simp [World.cell?, hk]
  have e0 : w1.frozen? ⟨l, 0, none⟩ = false := by simp [World.frozen?, hk]
  have FIN : Hid (Logged base l (n + 1) (xs ++ [.int .u8 76]) w (w1.setCell ⟨l, 0, none⟩ v')) := logged_of hl hlb hbase hnr hown' hgrow
  obtain ⟨g, cap, hv⟩ := slice_of hown'
  rw [hv] at FIN ⊢
  clear hv hown' hgrow hk c0 f0 hl hown ho hnr hi hz0 hz1 hz2
  go_wp2
  go_end0
  exact ⟨rfl, FIN.out⟩
set_option maxRecDepth 100000 in
set_option maxHeartbeats 800000 in
theorem unlock_deferred (base l n : Nat) (xs : List Value) (v : Value) (w : World) (hl : w.heap[l]? = some (.cells #[v] 26 (0, 0))) (hlb : l < base) (hbase : base ≤ w.heap.size) (hown : w.ownsRow base 5 1 v n xs) (hn : n ≤ 1000) (u : FrameMode) :
    CallsD Yba.prog 43 #[.pointer (some ⟨l, 0, none⟩)] u w fun e u' w' => u' = u ∧ (e = .returned (.tuple #[]) ∧ Logged base l (n + 1) (xs ++ [.int .u8 85]) w w') := by
  have c0 : w.cell? ⟨l, 0, none⟩ = some v := by simp [World.cell?, hl]
  have f0 : w.frozen? ⟨l, 0, none⟩ = false := by simp [World.frozen?, hl]
  obtain ⟨j0, hi, hz0, hz1, hz2⟩ := info_parts Yba.info5
  have hnr := ownBlock_ge hown
  have ho := hown.alloc (.cells #[.int .u8 85] 5)
  go_enter_d Yba.func43, Yba.ntmps43
  go_wp2_with (at_builtin; refine wpList_append_own _ rfl _ _ 24 rfl base 5 j0 (.int .u8 0) 1 1 Yba.underlying24 hi hz0 hz1 hz2 rfl (by decide) _ _ _ rfl ho ⟨w.heap.size, 0, none⟩ 1 1 [.int .u8 85] rfl rfl ?c1 ?c2 ?c3 ?c4 ?c5 ?_)
  case c1 => exact cell_one_new _ _ _
  case c2 => intro u hu; simp at hu; subst hu; rfl
  case c3 => unfold maxLen; omega
  case c4 => omega
  case c5 => simp; omega
  intro v' w1 hown' hgrow _
  have hk : w1.heap[l]? = some (.cells #[v] 26 (0, 0)) := by
    rw [hgrow.block l (by simp; omega) (fun h => by have := hnr l h.symm; omega), Below.heap_alloc _ _ _ (by omega)]; exact hl
  have d0 : w1.cell? ⟨l, 0, none⟩ = some v := by simp [World.cell?, hk]
  have e0 : w1.frozen? ⟨l, 0, none⟩ = false := by simp [World.frozen?, hk]
  have FIN : Hid (Logged base l (n + 1) (xs ++ [.int .u8 85]) w (w1.setCell ⟨l, 0, none⟩ v')) := logged_of hl hlb hbase hnr hown' hgrow
  obtain ⟨g, cap, hv⟩ := slice_of hown'
  rw [hv] at FIN ⊢
  clear hv hown' hgrow hk c0 f0 hl hown ho hnr hi hz0 hz1 hz2
  go_wp2
  go_end0
  exact ⟨rfl, FIN.out⟩

end Go.Proofs.Ybulkegxe
