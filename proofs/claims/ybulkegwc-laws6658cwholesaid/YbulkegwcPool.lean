import Derived.Test.YbulkegwcAtoms
import Derived.Test.YbulkegwcMath
namespace Go.Proofs.Ybulkegwc
open Go.RowKit

/-- the greater of two, as the walk writes the builtin max -/
def mx (a b : Int) : Int := if a < b then b else a
theorem mx_eq (a b : Int) : (if a < b then b else a) = mx a b := rfl
theorem mx_bd (a b : Int) : a ≤ mx a b ∧ b ≤ mx a b ∧ (mx a b = a ∨ mx a b = b) := by unfold mx; split <;> omega

set_option maxRecDepth 100000 in
set_option maxHeartbeats 400000 in
theorem workersIn_any (w : World) (s x : Int) (c : Bool) (s0 : 0 ≤ s) (s1 : s ≤ 2147483647) (x0 : 0 ≤ x) (x1 : x ≤ 2147483647) :
    Calls Yba.prog 42 #[.int .i64 (ST s x c)] w fun e w' => e = .returned (.int .i64 x) ∧ w' = w := by
  have h := ST_w (c := c) s0 s1 x0 x1
  go_enter Yba.func42, Yba.ntmps42
  go_wp2
  go_ret
  exact ⟨rfl, rfl⟩
set_option maxRecDepth 100000 in
set_option maxHeartbeats 400000 in
theorem slotsIn_any (w : World) (s x : Int) (c : Bool) (s0 : 0 ≤ s) (s1 : s ≤ 2147483647) (x0 : 0 ≤ x) (x1 : x ≤ 2147483647) :
    Calls Yba.prog 52 #[.int .i64 (ST s x c)] w fun e w' => e = .returned (.int .i64 s) ∧ w' = w := by
  have h := ST_s (c := c) s0 s1 x0 x1
  have hb := ST_bd (c := c) s0 s1 x0 x1
  have hb1 := hb.1
  have hb2 := hb.2
  clear hb
  go_enter Yba.func52, Yba.ntmps52
  go_wp2
  go_ret
  exact ⟨rfl, rfl⟩
set_option maxRecDepth 100000 in
set_option maxHeartbeats 400000 in
theorem running_any (w : World) (s x : Int) (c : Bool) (s0 : 0 ≤ s) (s1 : s ≤ 2147483647) (x0 : 0 ≤ x) (x1 : x ≤ 2147483647) (p : Nat) (hc : w.cell? ⟨p, 4, none⟩ = some (.int .i64 (ST s x c))) :
    Calls Yba.prog 31 #[.pointer (some ⟨p, 0, none⟩)] w fun e w' => e = .returned (.int .i64 x) ∧ w' = w := by
  have h1 := i64_load p 4 w _ hc
  have h2 := workersIn_any w s x c s0 s1 x0 x1
  go_enter Yba.func31, Yba.ntmps31
  go_wp2_with (first | (go_at_call 16; refine h1.mono ?_; rintro e w' ⟨rfl, rfl⟩) | (go_at_call 42; refine h2.mono ?_; rintro e w' ⟨rfl, rfl⟩))
  go_ret
  exact ⟨rfl, rfl⟩
set_option maxRecDepth 100000 in
set_option maxHeartbeats 400000 in
theorem cap_any (w : World) (p : Nat) (y : Int) (hc : w.cell? ⟨p, 0, none⟩ = some (.int .i64 y)) :
    Calls Yba.prog 28 #[.pointer (some ⟨p, 0, none⟩)] w fun e w' => e = .returned (.int .i64 y) ∧ w' = w := by
  have h1 := i64_load p 0 w _ hc
  go_enter Yba.func28, Yba.ntmps28
  go_wp2_with (go_at_call 16; refine h1.mono ?_; rintro e w' ⟨rfl, rfl⟩)
  go_ret
  exact ⟨rfl, rfl⟩

set_option maxRecDepth 100000 in
set_option maxHeartbeats 800000 in
theorem spare_any (w : World) (s x : Int) (c : Bool) (s0 : 0 ≤ s) (s1 : s ≤ 2147483647) (x0 : 0 ≤ x) (x1 : x ≤ 2147483647) (p : Nat) (st : Int) (t1 : st ≤ 2147483647) (hc : w.cell? ⟨p, 12, none⟩ = some (.int .i64 st)) :
    Calls Yba.prog 40 #[.pointer (some ⟨p, 0, none⟩), .int .i64 (ST s x c)] w fun e w' => e = .returned (.int .i64 (x - mx s st)) ∧ ∃ n, w' = w.drewN n := by
  have h2 := fun wx => workersIn_any wx s x c s0 s1 x0 x1
  have h3 := fun wx => slotsIn_any wx s x c s0 s1 x0 x1
  have hm := mx_eq s st
  have hb := mx_bd s st
  have m0 : 0 ≤ mx s st := by omega
  have m1 : mx s st ≤ 2147483647 := by omega
  generalize mx s st = m at hm m0 m1
  clear hb
  have hw : IntKind.i64.wrap (x - m) = x - m := by rw [IntKind.wrap_i64]; omega
  go_enter Yba.func40, Yba.ntmps40
  go_wp2
  go_region_with (first | (go_at_call 42; refine (h2 _).mono ?_; rintro e w' ⟨rfl, rfl⟩) | (go_at_call 52; refine (h3 _).mono ?_; rintro e w' ⟨rfl, rfl⟩))
  all_goals
    go_wp2
    go_ret
    exact ⟨rfl, 1, rfl⟩
end Go.Proofs.Ybulkegwc
