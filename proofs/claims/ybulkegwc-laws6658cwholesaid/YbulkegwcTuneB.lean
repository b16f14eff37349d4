import Derived.Test.YbulkegwcTuneA
namespace Go.Proofs.Ybulkegwc
open Go.RowKit

/-- the name of an interface type's method, by its place -/
def nameAt (d : Option TypeDesc) (i : Nat) : String := match d with | some (.interface ms) => (ms[i]?.map (·.1)).getD default | _ => default
theorem method_stop (a : Addr) (w : World) : (method 254 44 (.pointer (some a)) (nameAt (Yba.prog.underlying 72) 5)).run Yba.prog w = .ok (85, .pointer (some a)) w := by kernel_rfl

theorem lt_of_cell {w : World} {b o : Nat} {v : Value} (h : w.cell? ⟨b, o, none⟩ = some v) : b < w.heap.size := by
  rcases Nat.lt_or_ge b w.heap.size with h' | h'
  · exact h'
  · simp [World.cell?, Array.getElem?_eq_none h'] at h

/-- what Tune leaves where it shrinks the pool: y workers are left by the first letGo -/
def Shrunk (w w' : World) (p z : Nat) (size s y st idle : Int) (c : Bool) : Prop :=
  w'.cell? ⟨p, 0, none⟩ = some (.int .i64 size) ∧ w'.cell? ⟨p, 4, none⟩ = some (.int .i64 (ST s (ltg s y (st - stp (y - size) idle) (stp (y - size) idle)) c)) ∧
  w'.cell? ⟨p, 9, none⟩ = some (.int .i32 0) ∧ w'.cell? ⟨p, 12, none⟩ = some (.int .i64 (st - stp (y - size) idle)) ∧
  (∀ o, o ≠ 0 → o ≠ 4 → o ≠ 9 → o ≠ 12 → w'.cell? ⟨p, o, none⟩ = w.cell? ⟨p, o, none⟩) ∧ (∀ o, w'.frozen? ⟨p, o, none⟩ = w.frozen? ⟨p, o, none⟩) ∧
  (∃ g cap, w'.heap[z]? = some (.cells #[.int .i64 (idle - stp (y - size) idle), .slice (some ⟨g, 0, none⟩) 1 cap] 47 (0, 0)) ∧ w'.cell? ⟨g, 0, none⟩ = some (.int .i64 (y - size)) ∧ w.heap.size ≤ g) ∧
  (∀ k, k < w.heap.size → k ≠ z → k ≠ p → w'.heap[k]? = w.heap[k]?) ∧ w.heap.size ≤ w'.heap.size ∧ w'.os = w.os ∧ w'.tape = w.tape ∧ w'.output = w.output

theorem shrunk_of {w V w2 : World} {p z : Nat} {size s y st idle : Int} {c : Bool} (n k : Nat) (hzp : ¬ z = p) (c0 : (w.cell? ⟨p, 0, none⟩).isSome = true) (c4 : (w.cell? ⟨p, 4, none⟩).isSome = true) (c9 : (w.cell? ⟨p, 9, none⟩).isSome = true) (c12 : (w.cell? ⟨p, 12, none⟩).isSome = true)
    (hV : V = ((w.setCell ⟨p, 9, none⟩ (.int .i32 1)).setCell ⟨p, 0, none⟩ (.int .i64 size)).setCell ⟨p, 4, none⟩ (.int .i64 (ST s y c))) (hS : Stopped (V.drewN n) w2 z (y - size) idle) :
    Shrunk w ((((w2.setCell ⟨p, 12, none⟩ (.int .i64 (st - stp (y - size) idle))).setCell ⟨p, 4, none⟩ (.int .i64 (ST s (ltg s y (st - stp (y - size) idle) (stp (y - size) idle)) c))).drewN k).setCell ⟨p, 9, none⟩ (.int .i32 0)) p z size s y st idle c := by
  obtain ⟨u0, c0⟩ := Option.isSome_iff_exists.1 c0
  obtain ⟨u4, c4⟩ := Option.isSome_iff_exists.1 c4
  obtain ⟨u9, c9⟩ := Option.isSome_iff_exists.1 c9
  obtain ⟨u12, c12⟩ := Option.isSome_iff_exists.1 c12
  obtain ⟨⟨g, cap, z1, z2, z3⟩, r1, r2, r3, r4, r5⟩ := hS
  have hVs : V.heap.size = w.heap.size := by rw [hV]; simp [World.setCell]
  have hp : p < w.heap.size := lt_of_cell c0
  have hbl : w2.heap[p]? = V.heap[p]? := r1 p (by rw [World.heap_drewN, hVs]; exact hp) (fun h => hzp h.symm)
  have hcv : ∀ o, w2.cell? ⟨p, o, none⟩ = V.cell? ⟨p, o, none⟩ := fun o => World.cell?_of_block (w := V) hbl
  have hfv : ∀ o, w2.frozen? ⟨p, o, none⟩ = V.frozen? ⟨p, o, none⟩ := fun o => World.frozen?_of_block (w := V) hbl
  have so : ∀ (X : World) (i j : Nat) (v : Value), i ≠ j → (X.setCell ⟨p, i, none⟩ v).cell? ⟨p, j, none⟩ = X.cell? ⟨p, j, none⟩ := fun X i j v h => World.cell?_setCell_other X ⟨p, i, none⟩ ⟨p, j, none⟩ v (fun e => h (congrArg Addr.off e))
  have ss : ∀ (X : World) (i : Nat) (u v : Value), X.cell? ⟨p, i, none⟩ = some u → (X.setCell ⟨p, i, none⟩ v).cell? ⟨p, i, none⟩ = some v := fun X i u v h => World.cell?_setCell_same X ⟨p, i, none⟩ v h
  have a9 : V.cell? ⟨p, 9, none⟩ = some (.int .i32 1) := by rw [hV, so _ 4 9 _ (by omega), so _ 0 9 _ (by omega)]; exact ss _ _ _ _ c9
  have a0 : V.cell? ⟨p, 0, none⟩ = some (.int .i64 size) := by rw [hV, so _ 4 0 _ (by omega)]; exact ss _ _ _ _ ((so _ 9 0 _ (by omega)).trans c0)
  have a4 : V.cell? ⟨p, 4, none⟩ = some (.int .i64 (ST s y c)) := by rw [hV]; exact ss _ _ _ _ (((so _ 0 4 _ (by omega)).trans (so _ 9 4 _ (by omega))).trans c4)
  have a12 : V.cell? ⟨p, 12, none⟩ = some u12 := by rw [hV, so _ 4 12 _ (by omega), so _ 0 12 _ (by omega), so _ 9 12 _ (by omega)]; exact c12
  refine ⟨?_, ?_, ?_, ?_, ?_, ?_, ⟨g, cap, ?_, ?_, ?_⟩, ?_, ?_, ?_, ?_, ?_⟩
  · rw [so _ 9 0 _ (by omega), World.cell?_drewN, so _ 4 0 _ (by omega), so _ 12 0 _ (by omega), hcv]; exact a0
  · rw [so _ 9 4 _ (by omega), World.cell?_drewN]; exact ss _ _ _ _ ((so _ 12 4 _ (by omega)).trans ((hcv 4).trans a4))
  · exact ss _ _ _ _ (by rw [World.cell?_drewN, so _ 4 9 _ (by omega), so _ 12 9 _ (by omega), hcv]; exact a9)
  · rw [so _ 9 12 _ (by omega), World.cell?_drewN, so _ 4 12 _ (by omega)]; exact ss _ _ _ _ ((hcv 12).trans a12)
  · intro o h0 h4 h9 h12
    rw [so _ 9 o _ (Ne.symm h9), World.cell?_drewN, so _ 4 o _ (Ne.symm h4), so _ 12 o _ (Ne.symm h12), hcv, hV, so _ 4 o _ (Ne.symm h4), so _ 0 o _ (Ne.symm h0), so _ 9 o _ (Ne.symm h9)]
  · intro o
    have := hfv o
    rw [hV] at this
    simp at this
    simpa using this
  · rw [Below.heap_setCell _ _ _ _ hzp, World.heap_drewN, Below.heap_setCell _ _ _ _ hzp, Below.heap_setCell _ _ _ _ hzp]; exact z1
  · have hgp : g ≠ p := by rw [World.heap_drewN, hVs] at z3; omega
    have sg : ∀ (X : World) (i : Nat) (v : Value), (X.setCell ⟨p, i, none⟩ v).cell? ⟨g, 0, none⟩ = X.cell? ⟨g, 0, none⟩ := fun X i v => World.cell?_setCell_other X ⟨p, i, none⟩ ⟨g, 0, none⟩ v (fun e => hgp (congrArg Addr.block e).symm)
    rw [sg, World.cell?_drewN, sg, sg]; exact z2
  · rw [World.heap_drewN, hVs] at z3; exact z3
  · intro k hk hkz hkp
    rw [Below.heap_setCell _ _ _ _ hkp, World.heap_drewN, Below.heap_setCell _ _ _ _ hkp, Below.heap_setCell _ _ _ _ hkp, r1 k (by rw [World.heap_drewN, hVs]; exact hk) hkz, World.heap_drewN, hV, Below.heap_setCell _ _ _ _ hkp, Below.heap_setCell _ _ _ _ hkp, Below.heap_setCell _ _ _ _ hkp]
  · rw [World.heap_drewN, hVs] at r2; simpa [World.setCell] using r2
  · exact r3.trans (by rw [hV]; rfl)
  · exact r4.trans (by rw [hV]; rfl)
  · exact r5.trans (by rw [hV]; rfl)

set_option maxRecDepth 100000 in
set_option maxHeartbeats 800000 in
theorem tune_shrink (w : World) (p ob z : Nat) (cap size s x st idle : Int) (c : Bool) (s0 : 0 ≤ s) (s1 : s ≤ 2147483647) (x0 : 0 ≤ x) (x1 : x ≤ 2147483647) (t0 : 0 ≤ st) (t1 : st ≤ 2147483647) (i0 : 0 ≤ idle) (i1 : idle ≤ 2147483647)
    (c0 : w.cell? ⟨p, 0, none⟩ = some (.int .i64 cap)) (c1 : w.cell? ⟨p, 1, none⟩ = some (.pointer (some ⟨ob, 0, none⟩))) (o6 : w.cell? ⟨ob, 6, none⟩ = some (.bool false))
    (c4 : w.cell? ⟨p, 4, none⟩ = some (.int .i64 (ST s x c))) (c11 : w.cell? ⟨p, 11, none⟩ = some (.iface 44 (.pointer (some ⟨z, 0, none⟩)))) (c12 : w.cell? ⟨p, 12, none⟩ = some (.int .i64 st))
    (hz : w.heap[z]? = some (.cells #[.int .i64 idle, .slice none 0 0] 47 (0, 0))) (hzp : ¬ z = p)
    (c9 : w.cell? ⟨p, 9, none⟩ = some (.int .i32 0)) (f : ∀ o, w.frozen? ⟨p, o, none⟩ = false) (q1 : 0 < size) (q2 : size < cap) (q3 : cap ≤ 9223372036854775807) :
    Calls Yba.prog 15 #[.pointer (some ⟨p, 0, none⟩), .int .i64 size] w fun e w' => e = .returned (.tuple #[]) ∧ Shrunk w w' p z size s (ltg s x st (x - size)) st idle c := by
  obtain ⟨y, hy⟩ : ∃ y, y = ltg s x st (x - size) := ⟨_, rfl⟩
  have hyb := ltg_bd s x st (x - size) s0 x0 x1
  rw [← hy] at hyb ⊢
  have y0 : 0 ≤ y := hyb.1
  have y1 : y ≤ 2147483647 := by omega
  have f9 := f 9
  have f4 := f 4
  have f0 := f 0
  have f12 := f 12
  have h1 := lock_free p 9 w c9 f9
  have d0 : (w.setCell ⟨p, 9, none⟩ (.int .i32 1)).cell? ⟨p, 0, none⟩ = some (.int .i64 cap) := (World.cell?_setCell_other w ⟨p, 9, none⟩ ⟨p, 0, none⟩ _ (by simp)).trans c0
  have h2 := cap_any (w.setCell ⟨p, 9, none⟩ (.int .i32 1)) p cap d0
  have h4 := i64_store p 0 (w.setCell ⟨p, 9, none⟩ (.int .i32 1)) _ size d0 (by simp [f0])
  have g0 : decide (cap < 0) = false := by simp; omega
  have g1 : decide (size ≤ 0) = false := by simp; omega
  have g2 : (size == cap) = false := by simp; omega
  have g3 : ¬ cap < size := by omega
  clear f
  have e4 : ((w.setCell ⟨p, 9, none⟩ (.int .i32 1)).setCell ⟨p, 0, none⟩ (.int .i64 size)).cell? ⟨p, 4, none⟩ = some (.int .i64 (ST s x c)) := by
    rw [World.cell?_setCell_other _ ⟨p, 0, none⟩ ⟨p, 4, none⟩ _ (by simp), World.cell?_setCell_other _ ⟨p, 9, none⟩ ⟨p, 4, none⟩ _ (by simp)]; exact c4
  have e12 : ((w.setCell ⟨p, 9, none⟩ (.int .i32 1)).setCell ⟨p, 0, none⟩ (.int .i64 size)).cell? ⟨p, 12, none⟩ = some (.int .i64 st) := by
    rw [World.cell?_setCell_other _ ⟨p, 0, none⟩ ⟨p, 12, none⟩ _ (by simp), World.cell?_setCell_other _ ⟨p, 9, none⟩ ⟨p, 12, none⟩ _ (by simp)]; exact c12
  have h5 := running_any ((w.setCell ⟨p, 9, none⟩ (.int .i32 1)).setCell ⟨p, 0, none⟩ (.int .i64 size)) s x c s0 s1 x0 x1 p e4
  have h6 := letGo_any ((w.setCell ⟨p, 9, none⟩ (.int .i32 1)).setCell ⟨p, 0, none⟩ (.int .i64 size)) s x c s0 s1 x0 x1 p st (x - size) t1 e12 e4 (by simp [f4])
  rw [← hy] at h6
  obtain ⟨V, hV⟩ : ∃ V, V = ((w.setCell ⟨p, 9, none⟩ (.int .i32 1)).setCell ⟨p, 0, none⟩ (.int .i64 size)).setCell ⟨p, 4, none⟩ (.int .i64 (ST s y c)) := ⟨_, rfl⟩
  have v4 : V.cell? ⟨p, 4, none⟩ = some (.int .i64 (ST s y c)) := by rw [hV]; exact World.cell?_setCell_same _ ⟨p, 4, none⟩ _ e4
  have v11 : V.cell? ⟨p, 11, none⟩ = some (.iface 44 (.pointer (some ⟨z, 0, none⟩))) := by
    rw [hV, World.cell?_setCell_other _ ⟨p, 4, none⟩ ⟨p, 11, none⟩ _ (by simp), World.cell?_setCell_other _ ⟨p, 0, none⟩ ⟨p, 11, none⟩ _ (by simp), World.cell?_setCell_other _ ⟨p, 9, none⟩ ⟨p, 11, none⟩ _ (by simp)]; exact c11
  have v12 : V.cell? ⟨p, 12, none⟩ = some (.int .i64 st) := by
    rw [hV, World.cell?_setCell_other _ ⟨p, 4, none⟩ ⟨p, 12, none⟩ _ (by simp)]; exact e12
  have vz : V.heap[z]? = some (.cells #[.int .i64 idle, .slice none 0 0] 47 (0, 0)) := by
    rw [hV, Below.heap_setCell _ _ _ _ hzp, Below.heap_setCell _ _ _ _ hzp, Below.heap_setCell _ _ _ _ hzp]; exact hz
  have vf : ∀ o, V.frozen? ⟨p, o, none⟩ = w.frozen? ⟨p, o, none⟩ := by intro o; rw [hV]; simp
  have v9 : V.cell? ⟨p, 9, none⟩ = some (.int .i32 1) := by
    rw [hV, World.cell?_setCell_other _ ⟨p, 4, none⟩ ⟨p, 9, none⟩ _ (by simp), World.cell?_setCell_other _ ⟨p, 0, none⟩ ⟨p, 9, none⟩ _ (by simp)]; exact World.cell?_setCell_same _ ⟨p, 9, none⟩ _ c9
  have v9f : V.frozen? ⟨p, 9, none⟩ = false := (vf 9).trans f9
  rw [← hV] at h6
  have v4f : V.frozen? ⟨p, 4, none⟩ = false := (vf 4).trans f4
  have v12f : V.frozen? ⟨p, 12, none⟩ = false := (vf 12).trans f12
  have h7 := fun n => running_any (V.drewN n) s y c s0 s1 y0 y1 p v4
  have h8 := fun n => stopOldest_any (V.drewN n) z (y - size) idle i0 i1 vz
  have h9 : ∀ n w2, Stopped (V.drewN n) w2 z (y - size) idle → Calls Yba.prog 32 #[.pointer (some ⟨p, 0, none⟩), .int .i64 (stp (y - size) idle)] w2 fun e w' => e = .returned (.tuple #[]) ∧ ∃ k, w' = ((w2.setCell ⟨p, 12, none⟩ (.int .i64 (st - stp (y - size) idle))).setCell ⟨p, 4, none⟩ (.int .i64 (ST s (ltg s y (st - stp (y - size) idle) (stp (y - size) idle)) c))).drewN k := by
    intro n w2 hS
    have hsb := stp_bd (y - size) idle i0
    have hp : p < V.heap.size := lt_of_cell v4
    have hbl := hS.2.1 p hp (fun h => hzp h.symm)
    refine countOut_any w2 s y c s0 s1 y0 y1 p st _ t0 t1 hsb.1 (by omega) ?_ ?_ ?_ ?_
    · rw [World.cell?_of_block (w := V.drewN n) hbl]; exact v12
    · rw [World.cell?_of_block (w := V.drewN n) hbl]; exact v4
    · rw [World.frozen?_of_block (w := V.drewN n) hbl]; exact v4f
    · rw [World.frozen?_of_block (w := V.drewN n) hbl]; exact v12f
  have HV : Hid (V = ((w.setCell ⟨p, 9, none⟩ (.int .i32 1)).setCell ⟨p, 0, none⟩ (.int .i64 size)).setCell ⟨p, 4, none⟩ (.int .i64 (ST s y c))) := hV
  have hms := fun W => method_stop ⟨z, 0, none⟩ W
  simp [nameAt, Yba.underlying72] at hms
  have hwr : IntKind.i64.wrap (y - size) = y - size := by rw [IntKind.wrap_i64]; omega
  have SH : Hid (∀ n k w2, Stopped (V.drewN n) w2 z (y - size) idle → Shrunk w ((((w2.setCell ⟨p, 12, none⟩ (.int .i64 (st - stp (y - size) idle))).setCell ⟨p, 4, none⟩ (.int .i64 (ST s (ltg s y (st - stp (y - size) idle) (stp (y - size) idle)) c))).drewN k).setCell ⟨p, 9, none⟩ (.int .i32 0)) p z size s y st idle c) :=
    fun n k w2 hS => shrunk_of n k hzp (by rw [c0]; rfl) (by rw [c4]; rfl) (by rw [c9]; rfl) (by rw [c12]; rfl) hV hS
  have HY : Hid (y = ltg s x st (x - size)) := hy
  clear hV hy hyb vf
  go_enter_defers Yba.func15, Yba.ntmps15
  go_upto_region 8 with (first | (go_at_call 27; refine h1.mono ?_; rintro e w' ⟨rfl, rfl⟩) | (go_at_call 28; refine h2.mono ?_; rintro e w' ⟨rfl, rfl⟩) | (go_at_call 10; refine h4.mono ?_; rintro e w' ⟨rfl, rfl⟩) | (go_at_call 31; refine h5.mono ?_; rintro e w' ⟨rfl, rfl⟩) | (go_at_call 30; refine h6.mono ?_; rintro e w' ⟨⟨v, rfl⟩, k, rfl⟩))
  clear h1 h2 h4 h5 h6 e4 e12 d0 c0 c1 o6 c4 c11 c12 c9 f0 f4 f9 f12 hz g0 g1 g2
  refine wp_mono (Q := fun e a' w' => match e with | .normal => a'.defers = [{ target := Target.fn (Fn.func 20) #[], args := #[Value.pointer (some ⟨p, 9, none⟩)] }] ∧ ∃ n w2 k, Stopped (V.drewN n) w2 z (y - size) idle ∧ w' = ((w2.setCell ⟨p, 12, none⟩ (.int .i64 (st - stp (y - size) idle))).setCell ⟨p, 4, none⟩ (.int .i64 (ST s (ltg s y (st - stp (y - size) idle) (stp (y - size) idle)) c))).drewN k | _ => False) ?_ ?_
  · go_region_with (first | (go_at_call 31; refine (h7 _).mono ?_; rintro e w' ⟨rfl, rfl⟩) | (go_at_call 85; refine (h8 _).mono ?_; rintro e w2 ⟨rfl, hS⟩) | (go_at_call 32; refine (h9 _ _ hS).mono ?_; rintro e w' ⟨rfl, k, rfl⟩))
    all_goals exact ⟨rfl, _, w2, _, hS, rfl⟩
  · intro e a' w' hq
    cases e with
    | normal =>
      obtain ⟨hd, n, w2, k2, hS, rfl⟩ := hq
      have hsh := SH.out n k2 w2 hS
      cases a' with
      | mk tmps defers =>
        simp only at hd
        subst hd
        have hp : p < V.heap.size := lt_of_cell v4
        have hbl := hS.2.1 p hp (fun h => hzp h.symm)
        refine leaves_cons (f := 20) (args := #[.pointer (some ⟨p, 9, none⟩)]) (by simp) (by simp [go_sem]) ?_
        refine (unlock_deferred p 9 _ .returning ?_ ?_).mono ?_
        · rw [World.cell?_drewN, World.cell?_setCell_other _ ⟨p, 4, none⟩ ⟨p, 9, none⟩ _ (by simp), World.cell?_setCell_other _ ⟨p, 12, none⟩ ⟨p, 9, none⟩ _ (by simp), World.cell?_of_block (w := V.drewN n) hbl]; exact v9
        · rw [World.frozen?_drewN, World.frozen?_setCell, World.frozen?_setCell, World.frozen?_of_block (w := V.drewN n) hbl]; exact v9f
        rintro e u' w'' ⟨rfl, rfl, rfl⟩
        exact ⟨_, results_none rfl _ _ _, rfl, hsh⟩
    | _ => exact hq.elim
end Go.Proofs.Ybulkegwc
