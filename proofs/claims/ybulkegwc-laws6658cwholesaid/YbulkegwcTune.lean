import Derived.Test.YbulkegwcPool
namespace Go.Proofs.Ybulkegwc
open Go.RowKit

theorem hide {p : Prop} (h : p) : Hid p := h

/-- the lesser of two, as the walk writes the builtin min -/
def mn (a b : Int) : Int := if b < a then b else a
theorem mn_eq (a b : Int) : (if b < a then b else a) = mn a b := rfl
theorem mn_bd (a b : Int) : mn a b ≤ a ∧ mn a b ≤ b ∧ (mn a b = a ∨ mn a b = b) := by unfold mn; split <;> omega
/-- the count of workers that letGo leaves of x -/
def ltg (s x st n : Int) : Int := if 0 < mn n (x - mx s st) then x - mn n (x - mx s st) else x
theorem ltg_bd (s x st n : Int) (s0 : 0 ≤ s) (x0 : 0 ≤ x) (x1 : x ≤ 2147483647) : 0 ≤ ltg s x st n ∧ ltg s x st n ≤ x := by
  unfold ltg
  have h1 := mn_bd n (x - mx s st)
  have h2 := mx_bd s st
  split <;> omega

theorem set_self (c : Array Value) (o : Nat) (v : Value) (h : c[o]? = some v) : c.setIfInBounds o v = c := by
  apply Array.ext
  · simp
  · intro j h3 h4
    rw [Array.getElem_setIfInBounds]
    split
    · rename_i hj
      subst hj
      exact (Array.getElem?_eq_some_iff.1 h).2.symm
    · rfl
theorem setCell_self (w : World) (b o : Nat) (v : Value) (h : w.cell? ⟨b, o, none⟩ = some v) : w.setCell ⟨b, o, none⟩ v = w := by
  unfold World.setCell
  cases w with
  | mk heap tape drawn os output =>
    congr 1
    apply Array.ext
    · simp
    · intro i h1 h2
      simp only [Array.getElem_modify]
      split
      · rename_i hi
        have hi' : b = i := hi
        subst hi'
        simp only [World.cell?] at h
        have : heap[b]? = some heap[b] := by simp
        rw [this] at h
        split at h
        · rename_i heq
          simp at heq
          rw [heq]
          simp at h
          simp [set_self _ _ _ h]
        · cases h
      · rfl

set_option maxRecDepth 100000 in
set_option maxHeartbeats 800000 in
theorem letGo_any (w : World) (s x : Int) (c : Bool) (s0 : 0 ≤ s) (s1 : s ≤ 2147483647) (x0 : 0 ≤ x) (x1 : x ≤ 2147483647) (p : Nat) (st n : Int) (t1 : st ≤ 2147483647) (hc : w.cell? ⟨p, 12, none⟩ = some (.int .i64 st))
    (hs : w.cell? ⟨p, 4, none⟩ = some (.int .i64 (ST s x c))) (hz : w.frozen? ⟨p, 4, none⟩ = false) :
    Calls Yba.prog 30 #[.pointer (some ⟨p, 0, none⟩), .int .i64 n] w fun e w' => (∃ v, e = .returned v) ∧ ∃ k, w' = (w.setCell ⟨p, 4, none⟩ (.int .i64 (ST s (ltg s x st n) c))).drewN k := by
  have h1 := i64_load p 4 w _ hs
  have h2 := spare_any w s x c s0 s1 x0 x1 p st t1 hc
  have hm := mn_eq n (x - mx s st)
  have hb := mn_bd n (x - mx s st)
  have hb2 := mx_bd s st
  have hsb := ST_bd (c := c) s0 s1 x0 x1
  by_cases hk : 0 < mn n (x - mx s st)
  · have e : ltg s x st n = x - mn n (x - mx s st) := by unfold ltg; rw [if_pos hk]
    rw [e]
    have hcas := fun k => i64_cas p 4 (w.drewN k) (ST s x c) (ST s (x - mn n (x - mx s st)) c) hs hz
    have hsub := ST_sub s x (mn n (x - mx s st)) c
    have b1 : mn n (x - mx s st) ≤ 2147483647 := by omega
    have b2 := hsb.1
    have b3 := hsb.2
    generalize mn n (x - mx s st) = k at *
    generalize x - mx s st = m at *
    clear e hb2 hb hsb
    go_enter Yba.func30, Yba.ntmps30
    go_wp2_with fail
    refine wp_loop_rounds 1 ?_
    rw [rounds_succ]
    go_wp2_with (first | (go_at_call 16; refine h1.mono ?_; rintro e w' ⟨rfl, rfl⟩) | (go_at_call 40; refine h2.mono ?_; rintro e w' ⟨rfl, n1, rfl⟩) | (go_at_call 41; refine (hcas _).mono ?_; rintro e w' ⟨rfl, rfl⟩))
    go_ret
    exact ⟨⟨_, rfl⟩, _, rfl⟩
  · have e : ltg s x st n = x := by unfold ltg; rw [if_neg hk]
    rw [e, setCell_self w p 4 _ hs]
    generalize mn n (x - mx s st) = k at *
    generalize x - mx s st = m at *
    clear e hb2 hb hsb
    go_enter Yba.func30, Yba.ntmps30
    go_wp2_with fail
    refine wp_loop_rounds 1 ?_
    rw [rounds_succ]
    go_wp2_with (first | (go_at_call 16; refine h1.mono ?_; rintro e w' ⟨rfl, rfl⟩) | (go_at_call 40; refine h2.mono ?_; rintro e w' ⟨rfl, n1, rfl⟩))
    go_ret
    exact ⟨⟨_, rfl⟩, _, rfl⟩

set_option maxRecDepth 100000 in
set_option maxHeartbeats 800000 in
theorem countOut_any (w : World) (s x : Int) (c : Bool) (s0 : 0 ≤ s) (s1 : s ≤ 2147483647) (x0 : 0 ≤ x) (x1 : x ≤ 2147483647) (p : Nat) (st n : Int) (t0 : 0 ≤ st) (t1 : st ≤ 2147483647) (n0 : 0 ≤ n) (n1 : n ≤ 2147483647) (hc : w.cell? ⟨p, 12, none⟩ = some (.int .i64 st))
    (hs : w.cell? ⟨p, 4, none⟩ = some (.int .i64 (ST s x c))) (hz : w.frozen? ⟨p, 4, none⟩ = false) (hz2 : w.frozen? ⟨p, 12, none⟩ = false) :
    Calls Yba.prog 32 #[.pointer (some ⟨p, 0, none⟩), .int .i64 n] w fun e w' => e = .returned (.tuple #[]) ∧ ∃ k, w' = ((w.setCell ⟨p, 12, none⟩ (.int .i64 (st - n))).setCell ⟨p, 4, none⟩ (.int .i64 (ST s (ltg s x (st - n) n) c))).drewN k := by
  have h1 := letGo_any (w.setCell ⟨p, 12, none⟩ (.int .i64 (st - n))) s x c s0 s1 x0 x1 p (st - n) n (by omega) (World.cell?_setCell_same w ⟨p, 12, none⟩ _ hc)
    ((World.cell?_setCell_other w ⟨p, 12, none⟩ ⟨p, 4, none⟩ _ (by simp)).trans hs) (by simp [hz])
  go_enter Yba.func32, Yba.ntmps32
  go_wp2_with (go_at_call 30; refine h1.mono ?_; rintro e w' ⟨⟨v, rfl⟩, k, rfl⟩)
  go_end0
  exact ⟨rfl, _, rfl⟩

theorem Yba.info3 : (Yba.prog.info? 3).map (fun i => (i.zero, i.size, i.bytes)) = some (some (.int .i64 0), 1, 8) := by kernel_rfl

/-- how many stopOldest stops -/
def stp (n idle : Int) : Int := if 0 < n then mn n idle else 0
theorem stp_bd (n idle : Int) (h0 : 0 ≤ idle) : 0 ≤ stp n idle ∧ stp n idle ≤ idle := by
  unfold stp
  have := mn_bd n idle
  split <;> omega

/-- what stopOldest leaves -/
def Stopped (w w' : World) (z : Nat) (n idle : Int) : Prop :=
  (∃ g cap, w'.heap[z]? = some (.cells #[.int .i64 (idle - stp n idle), .slice (some ⟨g, 0, none⟩) 1 cap] 47 (0, 0)) ∧ w'.cell? ⟨g, 0, none⟩ = some (.int .i64 n) ∧ w.heap.size ≤ g) ∧
  (∀ k, k < w.heap.size → k ≠ z → w'.heap[k]? = w.heap[k]?) ∧ w.heap.size ≤ w'.heap.size ∧ w'.os = w.os ∧ w'.tape = w.tape ∧ w'.output = w.output

set_option maxRecDepth 100000 in
set_option maxHeartbeats 800000 in
theorem stopOldest_any (w : World) (z : Nat) (n idle : Int) (i0 : 0 ≤ idle) (i1 : idle ≤ 2147483647) (hz : w.heap[z]? = some (.cells #[.int .i64 idle, .slice none 0 0] 47 (0, 0))) :
    Calls Yba.prog 85 #[.pointer (some ⟨z, 0, none⟩), .int .i64 n] w fun e w' => e = .returned (.int .i64 (stp n idle)) ∧ Stopped w w' z n idle := by
  have c0 : w.cell? ⟨z, 0, none⟩ = some (.int .i64 idle) := by simp [World.cell?, hz]
  have c1 : w.cell? ⟨z, 1, none⟩ = some (.slice none 0 0) := by simp [World.cell?, hz]
  have f0 : w.frozen? ⟨z, 0, none⟩ = false := by simp [World.frozen?, hz]
  have f1 : w.frozen? ⟨z, 1, none⟩ = false := by simp [World.frozen?, hz]
  obtain ⟨j0, hi, hz0, hz1, hz2⟩ := info_parts Yba.info3
  go_enter Yba.func85, Yba.ntmps85
  go_wp2_with (at_builtin; refine wpList_append_own _ rfl _ _ 45 rfl w.heap.size 3 j0 (.int .i64 0) 1 8 Yba.underlying45 hi hz0 hz1 hz2 rfl (by decide) _ _ _ rfl (World.ownsRow_nil _ _ _ _) ⟨w.heap.size, 0, none⟩ 1 1 [.int .i64 n] rfl rfl ?c1 ?c2 ?c3 ?c4 ?c5 ?_)
  case c1 => exact cell_one_new _ _ _
  case c2 => intro u hu; simp at hu; subst hu; rfl
  case c3 => unfold maxLen; omega
  case c4 => omega
  case c5 => simp
  intro v' w1 hown hgrow _
  obtain ⟨g, cap, hv, hg, hgc⟩ : ∃ g cap, v' = .slice (some ⟨g, 0, none⟩) 1 cap ∧ w.heap.size ≤ g ∧ w1.cell? ⟨g, 0, none⟩ = some (.int .i64 n) := by
    obtain ⟨_, h2⟩ := hown
    rcases h2 with ⟨_, h⟩ | ⟨g, cap, cur, hv, hg, hh, r1, r2, r3, r4⟩
    · omega
    · refine ⟨g, cap, hv, hg, ?_⟩
      have h0 : cur.toList[0]? = some (.int .i64 n) := by
        have := congrArg (fun l => l[0]?) r4
        simpa [List.getElem?_take] using this
      simp [World.cell?, hh]
      simpa using h0
  have hlt : z < w.heap.size := (Array.getElem?_eq_some_iff.1 hz).1
  have hz' : w1.heap[z]? = some (.cells #[.int .i64 idle, .slice none 0 0] 47 (0, 0)) := by
    rw [hgrow.block z (by simp; omega) (by simp [Value.ownBlock]), Below.heap_alloc _ _ _ hlt]; exact hz
  have hold : Hid ((∀ k, k < w.heap.size → w1.heap[k]? = w.heap[k]?) ∧ w.heap.size ≤ w1.heap.size ∧ w1.os = w.os ∧ w1.tape = w.tape ∧ w1.output = w.output) :=
    ⟨fun k hk => by rw [hgrow.block k (by simp; omega) (by simp [Value.ownBlock]), Below.heap_alloc _ _ _ hk], by have := hgrow.size; simp at this; omega, hgrow.os, hgrow.tape, hgrow.output⟩
  have d0 : w1.cell? ⟨z, 0, none⟩ = some (.int .i64 idle) := by simp [World.cell?, hz']
  have d1 : w1.cell? ⟨z, 1, none⟩ = some (.slice none 0 0) := by simp [World.cell?, hz']
  have e0 : w1.frozen? ⟨z, 0, none⟩ = false := by simp [World.frozen?, hz']
  have e1 : w1.frozen? ⟨z, 1, none⟩ = false := by simp [World.frozen?, hz']
  have HZ : Hid (w1.heap[z]? = some (.cells #[.int .i64 idle, .slice none 0 0] 47 (0, 0))) := hz'
  have HG : Hid (w.heap.size ≤ g ∧ w1.cell? ⟨g, 0, none⟩ = some (.int .i64 n)) := ⟨hg, hgc⟩
  rw [hv]
  clear hv hown hgrow c0 c1 f0 f1 hi hz0 hz1 hz2 hz hz' hg hgc
  have fin : ∀ r, r = stp n idle → Stopped w ((w1.setCell ⟨z, 1, none⟩ (.slice (some ⟨g, 0, none⟩) 1 cap)).setCell ⟨z, 0, none⟩ (.int .i64 (idle - r))) z n idle := by
    rintro r rfl
    obtain ⟨o1, o2, o3, o4, o5⟩ := hold.out
    obtain ⟨g1, g2⟩ := HG.out
    refine ⟨⟨g, cap, ?_, ?_, g1⟩, ?_, ?_, o3, o4, o5⟩
    · simp [World.setCell, Array.getElem?_modify, HZ.out]
    · have hne : z ≠ g := by omega
      rw [World.cell?_setCell_other _ ⟨z, 0, none⟩ ⟨g, 0, none⟩ _ (by simp), World.cell?_setCell_other _ ⟨z, 1, none⟩ ⟨g, 0, none⟩ _ (by simp)]
      exact g2
    · intro k h1 h2
      rw [Below.heap_setCell _ _ _ _ h2, Below.heap_setCell _ _ _ _ h2]; exact o1 k h1
    · simp [World.setCell]; exact o2
  have FIN := hide fin
  clear fin
  by_cases hn : 0 < n
  · by_cases hm : idle < n
    · have e : idle = stp n idle := by unfold stp mn; rw [if_pos hn, if_pos hm]
      have E : Hid (idle = stp n idle) := e
      clear e
      go_wp2
      go_ret
      exact ⟨by rw [← E.out]; rfl, by have := FIN.out _ E.out; first | exact this | simpa using this⟩
    · have E : Hid (n = stp n idle) := by show _ = _; unfold stp mn; rw [if_pos hn, if_neg hm]
      go_wp2
      go_ret
      exact ⟨by rw [← E.out]; rfl, by have := FIN.out _ E.out; first | exact this | simpa using this⟩
  · have E : Hid (0 = stp n idle) := by show _ = _; unfold stp; rw [if_neg hn]
    go_wp2
    go_ret
    exact ⟨by rw [← E.out]; rfl, by have := FIN.out _ E.out; first | exact this | simpa using this⟩
end Go.Proofs.Ybulkegwc
