import Derived.Test.YbulkegwcTune
import Derived.Conc.LoneCalls
import Derived.Deep.Cut
namespace Go.Proofs.Ybulkegwc
open Go.RowKit Go.Conc

set_option maxRecDepth 100000 in
set_option maxHeartbeats 800000 in
theorem offer_not (w : World) (p : Nat) (wt : Int) (of : Bool) (hw : w.cell? ⟨p, 6, none⟩ = some (.int .i32 wt)) (ho : w.cell? ⟨p, 8, none⟩ = some (.int .u32 (bi of))) (h : wt = 0 ∨ of = true) :
    Calls Yba.prog 29 #[.pointer (some ⟨p, 0, none⟩)] w fun e w' => e = .returned (.tuple #[]) ∧ w' = w := by
  have h1 := i32_load p 6 w _ hw
  have h2 := bool_load p 8 w of ho
  by_cases hz : wt = 0
  · subst hz
    go_enter Yba.func29, Yba.ntmps29
    go_wp2_with (first | (go_at_call 18; refine h1.mono ?_; rintro e w' ⟨rfl, rfl⟩) | (go_at_call 17; refine h2.mono ?_; rintro e w' ⟨rfl, rfl⟩))
    first | go_end0 | refine bodyPost_ret (results_none rfl _ _ _) rfl ?_
    exact ⟨rfl, rfl⟩
  · obtain rfl : of = true := by rcases h with h | h; exact absurd h hz; exact h
    go_enter Yba.func29, Yba.ntmps29
    go_wp2_with (first | (go_at_call 18; refine h1.mono ?_; rintro e w' ⟨rfl, rfl⟩) | (go_at_call 17; refine h2.mono ?_; rintro e w' ⟨rfl, rfl⟩))
    first | go_end0 | refine bodyPost_ret (results_none rfl _ _ _) rfl ?_
    exact ⟨rfl, rfl⟩

section
variable {P : Program} {b : Frame} {a : Act} {k : List Item} {cs : List Frame} {w : World} {ops : Array Oper}
theorem step_val {i : Nat} {rest : List Nat} {o : Oper} {v : Value} {w' : World} (ho : ops[i]? = some o) (hw : Region.wanted o (yielded ops a.tmps) = true) (hr : (execOp a.eval o).run P w = .ok (.value v) w') :
    step P (lone (b.at a (.inRegion ops (i :: rest) :: k)) cs w) = .next (lone (b.at (a.put o.dst v) (.inRegion ops rest :: k)) cs w') := by
  have hg := stepG_op (P := P) (b := b) (k := k) (cs := cs) (w := w) (rest := rest) ho hw
  have hfin : (b.at a (.inRegion ops (i :: rest) :: k)).finish v = b.at (a.put o.dst v) (.inRegion ops rest :: k) := by
    rw [Frame.finish_at, ho]; rfl
  refine step_lone_go ?_
  rw [hg, ← hfin]; simp [stepG.apply, hr]
theorem step_send {i : Nat} {rest : List Nat} {o : Oper} {v z : Value} {c cap s r : Nat} {buf : Array Value} {tm : Bool} (ho : ops[i]? = some o) (hw : Region.wanted o (yielded ops a.tmps) = true)
    (hr : (execOp a.eval o).run P w = .ok (.comm #[scase c v z] true .send) w) (hc : w.heap[c]? = some (.chan cap buf false s r tm)) (hroom : buf.size < cap) :
    step P (lone (b.at a (.inRegion ops (i :: rest) :: k)) cs w) = .next (lone (b.at (a.put o.dst undef) (.inRegion ops rest :: k)) cs (w.setChan c cap (buf.push v) false (s + 1) r tm)) := by
  have hfin : (b.at a (.inRegion ops (i :: rest) :: k)).finish undef = b.at (a.put o.dst undef) (.inRegion ops rest :: k) := by
    rw [Frame.finish_at, ho]; rfl
  have hst : ∃ es, stepG P true (G (b.at a (.inRegion ops (i :: rest) :: k)) cs) w = .comm (G (b.at a (.inRegion ops (i :: rest) :: k)) cs) #[scase c v z] true .send w es := by
    rw [stepG_oper ho hw]
    simp [stepG.apply, hr, G, GStep.after]
  obtain ⟨es, hst⟩ := hst
  have := step_lone_send_room hst hc hroom
  rw [hfin] at this
  exact this
end

theorem wanted_free {o : Oper} {ts : Array Oper} {tm : Array Value} (h : o.guard = none) : Region.wanted o (yielded ts tm) = true := by simp [Region.wanted, h]

/-- a region of five plain operations and a send into a buffer with room -/
theorem wp_send5 {P : Program} {id : Nat} {o0 o1 o2 o3 o4 o5 : Oper} {Q : Exit → Act → World → Prop} {a : Act} {w : World} (v0 v1 v2 v3 v4 v z : Value) {c cap s r : Nat} {buf : Array Value} {tm : Bool}
    (g0 : o0.guard = none) (g1 : o1.guard = none) (g2 : o2.guard = none) (g3 : o3.guard = none) (g4 : o4.guard = none) (g5 : o5.guard = none)
    (h0 : (execOp a.eval o0).run P w = .ok (.value v0) w) (h1 : (execOp (a.put o0.dst v0).eval o1).run P w = .ok (.value v1) w)
    (h2 : (execOp ((a.put o0.dst v0).put o1.dst v1).eval o2).run P w = .ok (.value v2) w)
    (h3 : (execOp (((a.put o0.dst v0).put o1.dst v1).put o2.dst v2).eval o3).run P w = .ok (.value v3) w)
    (h4 : (execOp ((((a.put o0.dst v0).put o1.dst v1).put o2.dst v2).put o3.dst v3).eval o4).run P w = .ok (.value v4) w)
    (h5 : (execOp (((((a.put o0.dst v0).put o1.dst v1).put o2.dst v2).put o3.dst v3).put o4.dst v4).eval o5).run P w = .ok (.comm #[scase c v z] true .send) w)
    (hc : w.heap[c]? = some (.chan cap buf false s r tm)) (hroom : buf.size < cap)
    (hQ : Q .normal ((((((a.put o0.dst v0).put o1.dst v1).put o2.dst v2).put o3.dst v3).put o4.dst v4).put o5.dst undef) (w.setChan c cap (buf.push v) false (s + 1) r tm)) :
    (Code.region id #[o0, o1, o2, o3, o4, o5] false).wp P Q a w := by
  intro b k cs
  refine ⟨.normal, _, _, hQ, ?_⟩
  refine .head step_region ?_
  refine .head (step_val (o := o0) rfl (wanted_free g0) h0) ?_
  refine .head (step_val (o := o1) rfl (wanted_free g1) h1) ?_
  refine .head (step_val (o := o2) rfl (wanted_free g2) h2) ?_
  refine .head (step_val (o := o3) rfl (wanted_free g3) h3) ?_
  refine .head (step_val (o := o4) rfl (wanted_free g4) h4) ?_
  refine .head (step_send (o := o5) rfl (wanted_free g5) h5 hc hroom) ?_
  exact .one step_region_end

set_option maxRecDepth 100000 in
set_option maxHeartbeats 800000 in
theorem offer_yes (w : World) (p ch : Nat) (wt : Int) (hw : w.cell? ⟨p, 6, none⟩ = some (.int .i32 wt)) (ho : w.cell? ⟨p, 8, none⟩ = some (.int .u32 0)) (hf : w.frozen? ⟨p, 8, none⟩ = false) (h : ¬ wt = 0)
    (hr : w.cell? ⟨p, 7, none⟩ = some (.chan (some ch))) (hch : w.heap[ch]? = some (.chan 1 #[] false 0 0 false)) (hne : ¬ ch = p) :
    Calls Yba.prog 29 #[.pointer (some ⟨p, 0, none⟩)] w fun e w' => e = .returned (.tuple #[]) ∧ ∃ n, w' = ((w.setCell ⟨p, 8, none⟩ (.int .u32 1)).drewN n).setChan ch 1 #[.agg #[]] false 1 0 false := by
  have h1 := i32_load p 6 w _ hw
  have h2 := bool_load p 8 w false ho
  have h3 := bool_cas p 8 w ho hf
  go_enter Yba.func29, Yba.ntmps29
  go_upto_region 1 with (first | (go_at_call 18; refine h1.mono ?_; rintro e w' ⟨rfl, rfl⟩) | (go_at_call 17; refine h2.mono ?_; rintro e w' ⟨rfl, rfl⟩) | (go_at_call 39; refine h3.mono ?_; rintro e w' ⟨rfl, n, rfl⟩))
  refine wp_send5 (.pointer (some ⟨p, 0, none⟩)) (.pointer (some ⟨p, 0, none⟩)) (.pointer (some ⟨p, 7, none⟩)) (.chan (some ch)) (.agg #[]) (.agg #[]) (.tuple #[]) (c := ch) (cap := 1) (s := 0) (r := 0) (buf := #[]) (tm := false) rfl rfl rfl rfl rfl rfl (by go_simp) (by go_simp) (by go_simp) (by go_simp) (by go_simp) ?_ ?_ (by simp) ?_
  · simp [execOp, scase, Act.eval, Act.put]
  · rw [World.heap_drewN, Below.heap_setCell _ _ _ _ hne]; exact hch
  · go_end0
    exact ⟨rfl, n, rfl⟩
end Go.Proofs.Ybulkegwc
