import Derived.Test.YbulkegwcRows
import Derived.WalkKit
import Derived.WalkSpells
import Derived.WalkLawsBesides
import Derived.BigQuiet
import Derived.Deep.QuietTactic
import Derived.Deep.RegionWith
import Derived.Laws.CopyOwn
import Derived.OpenShut
namespace Go.Proofs.Ybulkegwc
open Go.RowKit

theorem Yba.info30 : (Yba.prog.info? 30).map (fun i => (i.zero, i.size, i.bytes)) = some (some (.pointer none), 1, 8) := by kernel_rfl

-- slot: (head + i) % len(items)
set_option maxHeartbeats 400000 in
theorem slot_any (b : Nat) (p : Option Addr) (L : Nat) (c : Nat) (h i : Int) (w : World)
    (h0 : w.cell? ⟨b, 0, none⟩ = some (.slice p L c)) (h1 : w.cell? ⟨b, 1, none⟩ = some (.int .i64 h))
    (hh : 0 ≤ h) (hh2 : h ≤ 1024) (hi : 0 ≤ i) (hi2 : i ≤ 1024) (hL : 1 ≤ L) (hL2 : L ≤ 1024) :
    Calls Yba.prog 21 #[.pointer (some ⟨b, 0, none⟩), .int .i64 i] w fun e w' => e = .returned (.int .i64 ((h + i) % L)) ∧ ∃ n, w' = w.drewN n := by
  have hLi : ¬ ((L : Int) = 0) := by omega
  go_enter Yba.func21, Yba.ntmps21
  go_wp2
  go_quiet (fail)
  go_wp2
  go_ret
  exact ⟨rfl, _, rfl⟩

theorem make_ptrs (L : Nat) (h : L ≤ 1024) (w : World) :
    (Instr.makeSlice 25 (.int .i64 (L : Int)) (.int .i64 (L : Int))).run Yba.prog w = .ok (.slice (some ⟨w.heap.size, 0, none⟩) L L) (w.alloc (.cells (madeCells #[.pointer none] L) 30)) := by
  obtain ⟨i, hi, hz0, hz1, hz2⟩ := info_parts Yba.info30
  have := run_make (P := Yba.prog) w 25 30 i (.pointer none) Yba.underlying25 hi hz0 .i64 .i64 L L (by omega) (by omega) (by rw [hz2]; omega) (by omega)
  rw [this, hz1]
  simp [Value.cells]

/-- what the loop keeps -/
def Row (w : World) (g : Nat) (xs : List Value) : Prop := w.heap[g]? = some (.cells xs.toArray 30 (0, 0))
def AllPtr (xs : List Value) : Prop := ∀ i, i < xs.length → ∃ p, xs[i]? = some (.pointer p)

theorem Row.cell {w : World} {g : Nat} {xs : List Value} (h : Row w g xs) (j : Nat) (v : Value) (hj : xs[j]? = some v) : w.cell? ⟨g, j, none⟩ = some v := by
  unfold Row at h
  simp [World.cell?, h, hj]
theorem Row.frozen {w : World} {g : Nat} {xs : List Value} (h : Row w g xs) (j : Nat) : w.frozen? ⟨g, j, none⟩ = false := by
  unfold Row at h
  simp [World.frozen?, h]
theorem Row.alloc {w : World} {g : Nat} {xs : List Value} (h : Row w g xs) (o : Obj) : Row (w.alloc o) g xs := by
  unfold Row at h ⊢
  have hlt : g < w.heap.size := (Array.getElem?_eq_some_iff.1 h).1
  rw [Below.heap_alloc _ _ _ hlt]; exact h
theorem Row.setCell {w : World} {g : Nat} {xs : List Value} (h : Row w g xs) (j : Nat) (v : Value) : Row (w.setCell ⟨g, j, none⟩ v) g (xs.set j v) := by
  unfold Row at h ⊢
  simp [World.setCell, Array.getElem?_modify, h]
theorem Row.setOther {w : World} {g : Nat} {xs : List Value} (h : Row w g xs) (a : Addr) (v : Value) (ha : g ≠ a.block) : Row (w.setCell a v) g xs := by
  unfold Row at h ⊢
  rw [Below.heap_setCell _ _ _ _ ha]; exact h
theorem Row.drewN {w : World} {g : Nat} {xs : List Value} (h : Row w g xs) (n : Nat) : Row (w.drewN n) g xs := h
theorem Row.lt {w : World} {g : Nat} {xs : List Value} (h : Row w g xs) : g < w.heap.size := (Array.getElem?_eq_some_iff.1 h).1
theorem AllPtr.set {xs : List Value} (h : AllPtr xs) (j : Nat) (p : Option Addr) : AllPtr (xs.set j (.pointer p)) := by
  intro i hi
  simp at hi
  by_cases e : j = i
  · subst e; exact ⟨p, by simp [hi]⟩
  · obtain ⟨q, hq⟩ := h i hi
    exact ⟨q, by rw [List.getElem?_set_ne e]; exact hq⟩
theorem made_ptrs (L : Nat) : (madeCells #[.pointer none] L).toList.length = L ∧ AllPtr (madeCells #[.pointer none] L).toList := by
  refine ⟨by simp [madeCells], ?_⟩
  intro i hi
  refine ⟨none, ?_⟩
  simp [madeCells] at hi
  simp [madeCells, hi, Nat.mod_one]
theorem Row.new (w : World) (a : Array Value) : Row (w.alloc (.cells a 30)) w.heap.size a.toList := by
  unfold Row
  rw [(MapKept.heap_alloc w _).1]
theorem AllPtr.one {xs : List Value} (h : AllPtr xs) : ∀ v ∈ xs, v.oneCell' = true := by
  intro v hv
  obtain ⟨i, hi, rfl⟩ := List.getElem_of_mem hv
  obtain ⟨p, hp⟩ := h i hi
  rw [List.getElem?_eq_getElem hi] at hp
  rw [Option.some.inj hp]; rfl

theorem copy_ptrs (w : World) (g s L : Nat) (xs ys : List Value) (hg : Row w g ys) (hs : Row w s xs) (hx : xs.length = L) (hy : ys.length = L) (hp : AllPtr xs) :
    ∃ w2, (Builtin.copy_ #[25, 25] 3 #[.slice (some ⟨g, 0, none⟩) L L, .slice (some ⟨s, 0, none⟩) L L]).run Yba.prog w = .ok (.int .i64 L) w2 ∧ Row w2 g xs ∧ (∀ k, k ≠ g → w2.heap[k]? = w.heap[k]?) ∧ w2.heap.size = w.heap.size ∧ w2.os = w.os ∧ w2.tape = w.tape ∧ w2.output = w.output := by
  have h := run_copy_row Yba.prog w 25 25 3 30 g 0 L L ⟨s, 0, none⟩ L L ys.toArray 30 xs Yba.underlying25 (by kernel_rfl) hg (by simp [hx]) (fun j v hj => by rw [Addr.add_lit, Nat.zero_add]; exact hs.cell j v hj) (by simp [hx, hy]) hp.one
  refine ⟨_, by rw [h, hx]; rfl, ?_, fun k hk => setRow_other _ _ _ _ hk, by simp [World.setRow], rfl, rfl, rfl⟩
  unfold Row
  rw [setRow_heap w g _ _ 30 _ hg]
  simp [hy, List.drop_eq_nil_of_le]

set_option maxRecDepth 100000 in
set_option maxHeartbeats 400000 in
theorem build_any (a0 a1 a2 : Int) (L h s : Nat) (hL : 1 + a0 % 1024 = (L : Int)) (hL2 : L ≤ 1024) (hh : a1 % (L : Int) = (h : Int)) (hs : a2 % (L : Int) = (s : Int)) (hh2 : h < L) (hs2 : s < L) (b0 : 0 ≤ a0) (b1 : 0 ≤ a1) (b2 : 0 ≤ a2) (c0 : a0 ≤ 65535) (c1 : a1 ≤ 18446744073709551615) (c2 : a2 ≤ 18446744073709551615) (w : World) :
    Calls Yba.prog 6 #[.int .u16 a0, .int .u64 a1, .int .u64 a2] w fun e w' => ∃ (it bf r : Nat) (xs : List Value), e = .returned (.tuple #[.pointer (some ⟨r, 0, none⟩), .slice (some ⟨bf, 0, none⟩) L L]) ∧
      xs.length = L ∧ AllPtr xs ∧ Row w' it xs ∧ Row w' bf xs ∧ w'.heap[r]? = some (.cells #[.slice (some ⟨it, 0, none⟩) L L, .int .i64 h, .int .i64 s] 29 (0, 0)) ∧ w.heap.size ≤ it ∧ it < bf ∧ bf < r ∧ w'.heap.size = r + 1 ∧ Below w.heap.size w w' := by
  have d0 : 0 ≤ a0 % 1024 := by omega
  have d1 : a0 % 1024 < 1024 := by omega
  have hmk := make_ptrs L hL2
  go_enter Yba.func6, Yba.ntmps6
  go_wp2
  have HH : Hid (a1 % (L : Int) = (h : Int)) := hh
  have HS : Hid (a2 % (L : Int) = (s : Int)) := hs
  clear hh hs d0 d1 b1 b2 c1 c2 b0 c0 hL
  go_loopw [12] (fun i wr => ∃ k : Nat, k ≤ s ∧ i = .int .i64 k ∧ (∃ xs : List Value, xs.length = L ∧ AllPtr xs ∧ Row wr w.heap.size xs) ∧ w.heap.size < wr.heap.size ∧ Below w.heap.size w wr)
    (fun i _ => s - (intOf i).toNat)
  case atStart => 
    refine ⟨0, Nat.zero_le _, rfl, ⟨(madeCells #[.pointer none] L).toList, (made_ptrs L).1, (made_ptrs L).2, ?_⟩, ?_, ?_⟩
    · exact Row.new _ _
    · simp
    · exact (Below.refl _ _).alloc (Nat.le_refl _) _
  case round =>
    obtain ⟨k, hk, rfl, ⟨xs, hxl, hxp, hrow⟩, hsz, hb⟩ := hrel
    by_cases hlt : k < s
    · by_cases hw : L ≤ h + k
      · obtain ⟨p, hp⟩ := hxp (h + k - L) (by omega)
        have hcell := hrow.cell (h + k - L) _ hp
        have hfro := hrow.frozen (h + k - L)
        clear hp
        go_wp2
        go_roundw
        case rel => exact ⟨k + 1, by omega, by go_num, ⟨_, by simpa using hxl, hxp.set (h + k - L) _, (hrow.setCell _ _).alloc _⟩, by simp; omega, (hb.setCell (by simp) _).alloc (by simp; omega) _⟩
        case measure => simp [intOf]; omega
      · obtain ⟨p, hp⟩ := hxp (h + k) (by omega)
        have hcell := hrow.cell (h + k) _ hp
        have hfro := hrow.frozen (h + k)
        clear hp
        go_wp2
        go_roundw
        case rel => exact ⟨k + 1, by omega, by go_num, ⟨_, by simpa using hxl, hxp.set (h + k) _, (hrow.setCell _ _).alloc _⟩, by simp; omega, (hb.setCell (by simp) _).alloc (by simp; omega) _⟩
        case measure => simp [intOf]; omega
    · have hr2 := hrow.alloc (.cells (madeCells #[.pointer none] L) 30)
      have hr3 := Row.new wr (madeCells #[.pointer none] L)
      obtain ⟨w2, hcp, q1, q2, q3, q4, q5, q6⟩ := copy_ptrs _ _ _ L _ _ hr3 hr2 hxl (made_ptrs L).1 hxp
      have hsl : k = s := by omega
      have HX : Hid (Row w2 w.heap.size xs) := by
        have := q2 w.heap.size (by omega)
        show w2.heap[w.heap.size]? = _
        rw [this]; exact hr2
      have HY : Hid (Row w2 wr.heap.size xs) := q1
      have HB : Hid (Below w.heap.size w w2) := by
        refine hb.trans ⟨q4, q5, q6, by simp [q3], fun k hk => ?_⟩
        rw [q2 k (by omega), Below.heap_alloc _ _ _ (by omega)]
      have HZ : Hid (w2.heap.size = wr.heap.size + 1) := by show _ = _; rw [q3]; simp
      clear hr2 hr3 q1 q2 q3 q4 q5 q6 hrow hb
      go_wp2
      go_ret2
      have hz := HZ.out
      refine ⟨w.heap.size, wr.heap.size, w2.heap.size, xs, ?_, hxl, hxp, HX.out.alloc _, HY.out.alloc _, ?_, Nat.le_refl _, hsz, by omega, by simp, HB.out.alloc (by omega) _⟩
      · simp
      · exact (MapKept.heap_alloc _ _).1

end Go.Proofs.Ybulkegwc
