import Derived.Test.YbulkegwcRows
import Derived.WalkKit
import Derived.WalkSpells
import Derived.WalkLawsBesides
import Derived.BigQuiet
import Derived.Deep.QuietTactic
import Derived.Deep.RegionWith
import Derived.Laws.LoneSync
import Derived.Defers
namespace Go.Proofs.Ybulkegwc
open Go.RowKit

theorem storeI64 {a : Addr} {y : Int} {u : Value} {w : World} (hc : w.cell? a = some u) (hz : w.frozen? a = false) :
    (callFunc 23 #[.pointer (some a), .int .i64 y]).run Yba.prog w = .ok (.value (.tuple #[])) (w.setCell a (.int .i64 y)) :=
  run_call_store Yba.func23 (by kernel_rfl) (by kernel_rfl) (by kernel_rfl) (by kernel_rfl) hc hz
theorem storeI32 {a : Addr} {y : Int} {u : Value} {w : World} (hc : w.cell? a = some u) (hz : w.frozen? a = false) :
    (callFunc 24 #[.pointer (some a), .int .i32 y]).run Yba.prog w = .ok (.value (.tuple #[])) (w.setCell a (.int .i32 y)) :=
  run_call_store Yba.func24 (by kernel_rfl) (by kernel_rfl) (by kernel_rfl) (by kernel_rfl) hc hz
theorem storeU32 {a : Addr} {y : Int} {u : Value} {w : World} (hc : w.cell? a = some u) (hz : w.frozen? a = false) :
    (callFunc 25 #[.pointer (some a), .int .u32 y]).run Yba.prog w = .ok (.value (.tuple #[])) (w.setCell a (.int .u32 y)) :=
  run_call_store Yba.func25 (by kernel_rfl) (by kernel_rfl) (by kernel_rfl) (by kernel_rfl) hc hz
theorem loadI64 {a : Addr} {x : Int} {w : World} (hc : w.cell? a = some (.int .i64 x)) :
    (callFunc 33 #[.pointer (some a)]).run Yba.prog w = .ok (.value (.int .i64 x)) w :=
  run_call_load Yba.func33 (by kernel_rfl) (by kernel_rfl) (by kernel_rfl) .i64 (by kernel_rfl) hc
theorem loadU32 {a : Addr} {x : Int} {w : World} (hc : w.cell? a = some (.int .u32 x)) :
    (callFunc 34 #[.pointer (some a)]).run Yba.prog w = .ok (.value (.int .u32 x)) w :=
  run_call_load Yba.func34 (by kernel_rfl) (by kernel_rfl) (by kernel_rfl) .u32 (by kernel_rfl) hc
theorem loadI32 {a : Addr} {x : Int} {w : World} (hc : w.cell? a = some (.int .i32 x)) :
    (callFunc 35 #[.pointer (some a)]).run Yba.prog w = .ok (.value (.int .i32 x)) w :=
  run_call_load Yba.func35 (by kernel_rfl) (by kernel_rfl) (by kernel_rfl) .i32 (by kernel_rfl) hc
theorem casI32 {a : Addr} {x y : Int} {w : World} (hc : w.cell? a = some (.int .i32 x)) (hz : w.frozen? a = false) :
    (callFunc 45 #[.pointer (some a), .int .i32 x, .int .i32 y]).run Yba.prog w = .ok (.value (.bool true)) (w.setCell a (.int .i32 y)) :=
  run_call_cas_hit Yba.func45 (by kernel_rfl) (by kernel_rfl) (by kernel_rfl) .i32 (by kernel_rfl) hc hz
theorem casU32 {a : Addr} {x y : Int} {w : World} (hc : w.cell? a = some (.int .u32 x)) (hz : w.frozen? a = false) :
    (callFunc 51 #[.pointer (some a), .int .u32 x, .int .u32 y]).run Yba.prog w = .ok (.value (.bool true)) (w.setCell a (.int .u32 y)) :=
  run_call_cas_hit Yba.func51 (by kernel_rfl) (by kernel_rfl) (by kernel_rfl) .u32 (by kernel_rfl) hc hz
theorem casI64 {a : Addr} {x y : Int} {w : World} (hc : w.cell? a = some (.int .i64 x)) (hz : w.frozen? a = false) :
    (callFunc 53 #[.pointer (some a), .int .i64 x, .int .i64 y]).run Yba.prog w = .ok (.value (.bool true)) (w.setCell a (.int .i64 y)) :=
  run_call_cas_hit Yba.func53 (by kernel_rfl) (by kernel_rfl) (by kernel_rfl) .i64 (by kernel_rfl) hc hz
theorem disable (w : World) : (callFunc 43 #[]).run Yba.prog w = .ok (.value (.tuple #[])) w := run_call_mark0 Yba.func43 (by kernel_rfl) (by kernel_rfl) (by kernel_rfl) .disable (by kernel_rfl) w
theorem enable (w : World) : (callFunc 44 #[]).run Yba.prog w = .ok (.value (.tuple #[])) w := run_call_mark0 Yba.func44 (by kernel_rfl) (by kernel_rfl) (by kernel_rfl) .enable (by kernel_rfl) w
theorem acquire (a : Addr) (w : World) : (callFunc 46 #[.pointer (some a)]).run Yba.prog w = .ok (.value (.tuple #[])) w := run_call_marked Yba.func46 (by kernel_rfl) (by kernel_rfl) (by kernel_rfl) .acquire (by kernel_rfl) a w
theorem releaseMerge (a : Addr) (w : World) : (callFunc 47 #[.pointer (some a)]).run Yba.prog w = .ok (.value (.tuple #[])) w := run_call_marked Yba.func47 (by kernel_rfl) (by kernel_rfl) (by kernel_rfl) .releaseMerge (by kernel_rfl) a w
theorem addI32 {a : Addr} {w : World} (hc : w.cell? a = some (.int .i32 1)) (hz : w.frozen? a = false) :
    (callFunc 48 #[.pointer (some a), .int .i32 (-1)]).run Yba.prog w = .ok (.value (.int .i32 0)) (w.setCell a (.int .i32 0)) :=
  run_call_add Yba.func48 (by kernel_rfl) (by kernel_rfl) (by kernel_rfl) .i32 (by kernel_rfl) (y := -1) (s := 0) hc hz (by simp [go_sem]; rfl)
theorem toUnsafe {a : Addr} {v : Value} {w : World} (hc : w.cell? a = some v) : (convert 103 106 (.pointer (some a))).run Yba.prog w = .ok (.pointer (some a)) w :=
  run_convert_to_unsafe Yba.underlying103 Yba.underlying106 (t := 68) (by kernel_rfl) hc

section
variable (b o : Nat) (w : World)

set_option maxHeartbeats 400000 in
theorem i64_store (u : Value) (y : Int) (hc : w.cell? ⟨b, o, none⟩ = some u) (hz : w.frozen? ⟨b, o, none⟩ = false) :
    Calls Yba.prog 10 #[.pointer (some ⟨b, o, none⟩), .int .i64 y] w fun e w' => e = .returned (.tuple #[]) ∧ w' = w.setCell ⟨b, o, none⟩ (.int .i64 y) := by
  have h1 := storeI64 (y := y) hc hz
  go_enter Yba.func10, Yba.ntmps10
  go_wp2
  go_end0
  exact ⟨rfl, rfl⟩
set_option maxHeartbeats 400000 in
theorem i32_store (u : Value) (y : Int) (hc : w.cell? ⟨b, o, none⟩ = some u) (hz : w.frozen? ⟨b, o, none⟩ = false) :
    Calls Yba.prog 11 #[.pointer (some ⟨b, o, none⟩), .int .i32 y] w fun e w' => e = .returned (.tuple #[]) ∧ w' = w.setCell ⟨b, o, none⟩ (.int .i32 y) := by
  have h1 := storeI32 (y := y) hc hz
  go_enter Yba.func11, Yba.ntmps11
  go_wp2
  go_end0
  exact ⟨rfl, rfl⟩
set_option maxHeartbeats 400000 in
theorem i64_load (x : Int) (hc : w.cell? ⟨b, o, none⟩ = some (.int .i64 x)) :
    Calls Yba.prog 16 #[.pointer (some ⟨b, o, none⟩)] w fun e w' => e = .returned (.int .i64 x) ∧ w' = w := by
  have h1 := loadI64 hc
  go_enter Yba.func16, Yba.ntmps16
  go_wp2
  go_ret
  exact ⟨rfl, rfl⟩
set_option maxHeartbeats 400000 in
theorem i32_load (x : Int) (hc : w.cell? ⟨b, o, none⟩ = some (.int .i32 x)) :
    Calls Yba.prog 18 #[.pointer (some ⟨b, o, none⟩)] w fun e w' => e = .returned (.int .i32 x) ∧ w' = w := by
  have h1 := loadI32 hc
  go_enter Yba.func18, Yba.ntmps18
  go_wp2
  go_ret
  exact ⟨rfl, rfl⟩
def bi (c : Bool) : Int := if c then 1 else 0
set_option maxHeartbeats 400000 in
theorem bool_load (c : Bool) (hc : w.cell? ⟨b, o, none⟩ = some (.int .u32 (bi c))) :
    Calls Yba.prog 17 #[.pointer (some ⟨b, o, none⟩)] w fun e w' => e = .returned (.bool c) ∧ w' = w := by
  have h1 := loadU32 hc
  cases c
  all_goals
    simp only [bi] at h1 hc
    go_enter Yba.func17, Yba.ntmps17
    go_wp2
    go_ret
    exact ⟨rfl, rfl⟩
set_option maxHeartbeats 400000 in
theorem b32_any (c : Bool) : Calls Yba.prog 26 #[.bool c] w fun e w' => e = .returned (.int .u32 (bi c)) ∧ w' = w := by
  cases c
  all_goals
    go_enter Yba.func26, Yba.ntmps26
    go_wp2
    go_ret
    exact ⟨rfl, rfl⟩
set_option maxHeartbeats 400000 in
theorem i64_cas (x y : Int) (hc : w.cell? ⟨b, o, none⟩ = some (.int .i64 x)) (hz : w.frozen? ⟨b, o, none⟩ = false) :
    Calls Yba.prog 41 #[.pointer (some ⟨b, o, none⟩), .int .i64 x, .int .i64 y] w fun e w' => e = .returned (.bool true) ∧ w' = w.setCell ⟨b, o, none⟩ (.int .i64 y) := by
  have h1 := casI64 (y := y) hc hz
  go_enter Yba.func41, Yba.ntmps41
  go_wp2
  go_ret
  exact ⟨rfl, rfl⟩
set_option maxHeartbeats 400000 in
theorem bool_store (u : Value) (c : Bool) (hc : w.cell? ⟨b, o, none⟩ = some u) (hz : w.frozen? ⟨b, o, none⟩ = false) :
    Calls Yba.prog 12 #[.pointer (some ⟨b, o, none⟩), .bool c] w fun e w' => e = .returned (.tuple #[]) ∧ ∃ n, w' = (w.setCell ⟨b, o, none⟩ (.int .u32 (bi c))).drewN n := by
  have h2 := storeU32 (y := bi c) (w := w.drew) (a := ⟨b, o, none⟩) (u := u) hc hz
  have h3 := fun wx => b32_any wx c
  go_enter Yba.func12, Yba.ntmps12
  go_region_with (go_at_call 26; refine (h3 _).mono ?_; rintro e w' ⟨rfl, rfl⟩)
  go_end0
  exact ⟨rfl, 1, rfl⟩
set_option maxRecDepth 100000 in
set_option maxHeartbeats 800000 in
theorem bool_cas (hc : w.cell? ⟨b, o, none⟩ = some (.int .u32 0)) (hz : w.frozen? ⟨b, o, none⟩ = false) :
    Calls Yba.prog 39 #[.pointer (some ⟨b, o, none⟩), .bool false, .bool true] w fun e w' => e = .returned (.bool true) ∧ ∃ n, w' = (w.setCell ⟨b, o, none⟩ (.int .u32 1)).drewN n := by
  have h2 := casU32 (y := 1) (w := w.drew) (a := ⟨b, o, none⟩) (x := 0) hc hz
  have h3 := fun wx => b32_any wx false
  have h4 := fun wx => b32_any wx true
  simp only [bi] at h3 h4
  go_enter Yba.func39, Yba.ntmps39
  go_wp2
  go_region_with (first | (go_at_call_of 26 (Value.bool false); refine (h3 _).mono ?_; rintro e w' ⟨rfl, rfl⟩) | (go_at_call_of 26 (Value.bool true); refine (h4 _).mono ?_; rintro e w' ⟨rfl, rfl⟩))
  all_goals
    go_wp2
    go_ret
    exact ⟨rfl, 1, rfl⟩

set_option maxRecDepth 100000 in
set_option maxHeartbeats 800000 in
theorem ilock_free (hc : w.cell? ⟨b, o, none⟩ = some (.int .i32 0)) (hz : w.frozen? ⟨b, o, none⟩ = false) :
    Calls Yba.prog 38 #[.pointer (some ⟨b, o, none⟩)] w fun e w' => e = .returned (.tuple #[]) ∧ w' = w.setCell ⟨b, o, none⟩ (.int .i32 1) := by
  have hd := disable
  have he := enable
  have ha := acquire
  have hcs := casI32 (y := 1) hc hz
  have hcv := toUnsafe (w := w.setCell ⟨b, o, none⟩ (.int .i32 1)) (World.cell?_setCell_same w ⟨b, o, none⟩ (.int .i32 1) hc)
  go_enter Yba.func38, Yba.ntmps38
  go_wp2
  first | go_end0 | refine bodyPost_ret (results_none rfl _ _ _) rfl ?_
  exact ⟨rfl, rfl⟩
set_option maxRecDepth 100000 in
set_option maxHeartbeats 800000 in
theorem lock_free (hc : w.cell? ⟨b, o, none⟩ = some (.int .i32 0)) (hz : w.frozen? ⟨b, o, none⟩ = false) :
    Calls Yba.prog 27 #[.pointer (some ⟨b, o, none⟩)] w fun e w' => e = .returned (.tuple #[]) ∧ w' = w.setCell ⟨b, o, none⟩ (.int .i32 1) := by
  go_enter Yba.func27, Yba.ntmps27
  go_wp2_with (go_at_call 38; refine (ilock_free b o w hc hz).mono ?_; rintro e w' ⟨rfl, rfl⟩)
  go_end0
  exact ⟨rfl, rfl⟩
set_option maxRecDepth 100000 in
set_option maxHeartbeats 800000 in
theorem iunlock_held (hc : w.cell? ⟨b, o, none⟩ = some (.int .i32 1)) (hz : w.frozen? ⟨b, o, none⟩ = false) :
    Calls Yba.prog 37 #[.pointer (some ⟨b, o, none⟩)] w fun e w' => e = .returned (.tuple #[]) ∧ w' = w.setCell ⟨b, o, none⟩ (.int .i32 0) := by
  have hd := disable
  have he := enable
  have hr := releaseMerge
  have hcv := toUnsafe hc
  have hadd := addI32 hc hz
  go_enter Yba.func37, Yba.ntmps37
  go_wp2
  go_end0
  exact ⟨rfl, rfl⟩
set_option maxRecDepth 100000 in
set_option maxHeartbeats 800000 in
theorem unlock_held (hc : w.cell? ⟨b, o, none⟩ = some (.int .i32 1)) (hz : w.frozen? ⟨b, o, none⟩ = false) :
    Calls Yba.prog 20 #[.pointer (some ⟨b, o, none⟩)] w fun e w' => e = .returned (.tuple #[]) ∧ w' = w.setCell ⟨b, o, none⟩ (.int .i32 0) := by
  go_enter Yba.func20, Yba.ntmps20
  go_wp2_with (go_at_call 37; refine (iunlock_held b o w hc hz).mono ?_; rintro e w' ⟨rfl, rfl⟩)
  go_end0
  exact ⟨rfl, rfl⟩
set_option maxRecDepth 100000 in
set_option maxHeartbeats 800000 in
theorem unlock_deferred (u : FrameMode) (hc : w.cell? ⟨b, o, none⟩ = some (.int .i32 1)) (hz : w.frozen? ⟨b, o, none⟩ = false) :
    CallsD Yba.prog 20 #[.pointer (some ⟨b, o, none⟩)] u w fun e u' w' => u' = u ∧ (e = .returned (.tuple #[]) ∧ w' = w.setCell ⟨b, o, none⟩ (.int .i32 0)) := by
  go_enter_d Yba.func20, Yba.ntmps20
  go_wp2_with (go_at_call 37; refine (iunlock_held b o w hc hz).mono ?_; rintro e w' ⟨rfl, rfl⟩)
  go_end0
  exact ⟨rfl, rfl⟩
set_option maxRecDepth 100000 in
set_option maxHeartbeats 800000 in
theorem itry_free (hc : w.cell? ⟨b, o, none⟩ = some (.int .i32 0)) (hz : w.frozen? ⟨b, o, none⟩ = false) :
    Calls Yba.prog 36 #[.pointer (some ⟨b, o, none⟩)] w fun e w' => e = .returned (.bool true) ∧ w' = w.setCell ⟨b, o, none⟩ (.int .i32 1) := by
  have hd := disable
  have he := enable
  have ha := acquire
  have hcs := casI32 (y := 1) hc hz
  have hcv := toUnsafe (w := w.setCell ⟨b, o, none⟩ (.int .i32 1)) (World.cell?_setCell_same w ⟨b, o, none⟩ (.int .i32 1) hc)
  have hnot : ∀ (x : Bool) (w : World), (Op.unary .not (.bool x)).run Yba.prog w = .ok (.bool (!x)) w := fun _ _ => rfl
  go_enter Yba.func36, Yba.ntmps36
  go_wp2
  go_ret
  exact ⟨rfl, rfl⟩
set_option maxRecDepth 100000 in
set_option maxHeartbeats 800000 in
theorem try_free (hc : w.cell? ⟨b, o, none⟩ = some (.int .i32 0)) (hz : w.frozen? ⟨b, o, none⟩ = false) :
    Calls Yba.prog 19 #[.pointer (some ⟨b, o, none⟩)] w fun e w' => e = .returned (.bool true) ∧ w' = w.setCell ⟨b, o, none⟩ (.int .i32 1) := by
  go_enter Yba.func19, Yba.ntmps19
  go_wp2_with (go_at_call 36; refine (itry_free b o w hc hz).mono ?_; rintro e w' ⟨rfl, rfl⟩)
  go_ret
  exact ⟨rfl, rfl⟩
end
end Go.Proofs.Ybulkegwc
