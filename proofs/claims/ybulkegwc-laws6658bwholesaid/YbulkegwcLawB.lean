/- The statement LawS6658BWholeSaid: the walk of the law out of the contracts of build, push and slot; the frame is the given shell with Below in the place of Grown. -/
import Derived.Test.YbulkegwcPush
import Derived.WalkKit
import Derived.ProofKit
import Derived.OpenShut
import Derived.ShutString
namespace Go.Proofs.Ybulkegwc.lawS6658BWhole
open Go.ChangeShapes Go.WideShapes Go.ChangeAt Go.RowKit
open Go.ChangeMaps (open_string shut_string)
set_option linter.unusedVariables false

theorem own : ownKnob Yba.prog.godebug = none := by kernel_rfl

theorem chan_nil (w : World) : (binOp .eql 32 (.chan none) (.chan none)).run Yba.prog w = .ok (.bool true) w := by kernel_rfl

set_option maxRecDepth 100000 in
set_option maxHeartbeats 800000 in
theorem walk' (a0 a1 a2 : Int) (L h s : Nat) (hL : 1 + a0 % 1024 = (L : Int)) (hL2 : L ≤ 1024) (hh : a1 % (L : Int) = (h : Int)) (hs : a2 % (L : Int) = (s : Int)) (hh2 : h < L) (hs2 : s < L) (b0 : 0 ≤ a0) (b1 : 0 ≤ a1) (b2 : 0 ≤ a2) (c0 : a0 ≤ 65535) (c1 : a1 ≤ 18446744073709551615) (c2 : a2 ≤ 18446744073709551615) (w : World) :
    Calls Yba.prog 3 #[.int .u16 a0, .int .u64 a1, .int .u64 a2] w fun e w' => e = .returned (.bool true) ∧ Below w.heap.size w w' := by
  have hbuild := build_any a0 a1 a2 L h s hL hL2 hh hs hh2 hs2 b0 b1 b2 c0 c1 c2
  have HB := hbuild
  clear hbuild hL hh hs b0 b1 b2 c0 c1 c2
  go_enter Yba.func3, Yba.ntmps3
  go_wp2_with fail
  refine (HB _).mono ?_
  rintro e w1 ⟨it, bf, r, xs, rfl, hxl, hxp, hit, hbf, hr, k1, k2, k3, k4, hb⟩
  clear HB
  have g0 : w1.cell? ⟨r, 0, none⟩ = some (.slice (some ⟨it, 0, none⟩) L L) := by rw [cells_at hr]; rfl
  have g1 : w1.cell? ⟨r, 1, none⟩ = some (.int .i64 h) := by rw [cells_at hr]; rfl
  have g2 : w1.cell? ⟨r, 2, none⟩ = some (.int .i64 s) := by rw [cells_at hr]; rfl
  go_wp2_with fail
  go_quiet (fail)
  go_wp2_with fail
  have hr' : ((w1.drewN nq).alloc (.cells #[.pointer none, .chan none, .int .u64 0, .int .i64 0, .pointer none] 38)).heap[r]? = some (.cells #[.slice (some ⟨it, 0, none⟩) L L, .int .i64 h, .int .i64 s] 29 (0, 0)) := by
    rw [Below.heap_alloc _ _ _ (by simp; omega)]; exact hr
  refine (push_law r it L h s xs _ _ (by omega) hr' ((hit.drewN _).alloc _) hxl hxp hh2 hs2 hL2).mono ?_
  rintro e w3 ⟨rfl, p1, p2, p3, p4, p5, p6, p7⟩
  have hw' : w3.heap[r + 1]? = some (.cells #[.pointer none, .chan none, .int .u64 0, .int .i64 0, .pointer none] 38 (0, 0)) := by
    rw [p3 _ (by omega) (by omega)]
    have := (MapKept.heap_alloc (w1.drewN nq) (.cells #[.pointer none, .chan none, .int .u64 0, .int .i64 0, .pointer none] 38)).1
    rw [World.heap_drewN, k4] at this
    exact this
  have hbf3 : Row w3 bf xs := by
    show w3.heap[bf]? = _
    rw [p3 _ (by omega) (by omega)]; exact (hbf.drewN _).alloc _
  have hb3 : Below w.heap.size w w3 := by
    refine hb.trans ⟨p5, p6, p7, by rw [p4]; simp, fun k hk => ?_⟩
    rw [p3 _ (by omega) (by omega), Below.heap_alloc _ _ _ (by simp; omega)]; rfl
  have hz3 : w3.heap.size = r + 2 := by rw [p4]; simp [k4]
  have g0' : w3.cell? ⟨r, 0, none⟩ = some (.slice (some ⟨it, 0, none⟩) L L) := by rw [cells_at p2]; rfl
  have g1' : w3.cell? ⟨r, 1, none⟩ = some (.int .i64 h) := by rw [cells_at p2]; rfl
  have g2' : w3.cell? ⟨r, 2, none⟩ = some (.int .i64 (s + 1)) := by rw [cells_at p2]; rfl
  have z0 : w3.cell? ⟨r + 1, 0, none⟩ = some (.pointer none) := by rw [cells_at hw']; rfl
  have z1 : w3.cell? ⟨r + 1, 1, none⟩ = some (.chan none) := by rw [cells_at hw']; rfl
  have z2 : w3.cell? ⟨r + 1, 2, none⟩ = some (.int .u64 0) := by rw [cells_at hw']; rfl
  have z3 : w3.cell? ⟨r + 1, 3, none⟩ = some (.int .i64 0) := by rw [cells_at hw']; rfl
  have z4 : w3.cell? ⟨r + 1, 4, none⟩ = some (.pointer none) := by rw [cells_at hw']; rfl
  clear hr' hr g0 g1 g2 hit hbf p2 p3 p4 p5 p6 p7 hb k4 hw'
  by_cases hw : L ≤ h + s
  · obtain ⟨j, hj⟩ : ∃ j, j = h + s - L := ⟨_, rfl⟩
    have hjL : j < L := by omega
    have HJ : Hid ((h + s) % L = j) := by
      show _ = _
      rw [Nat.mod_eq_sub_mod hw, ← hj, Nat.mod_eq_of_lt hjL]
    have hjj : (h : Int) + (s : Int) - (L : Int) = (j : Int) := by omega
    clear hj
    go_wp2
    clear hjj
    go_loop [14] (fun i => ∃ k : Nat, k ≤ L ∧ i = .int .i64 k) (fun i => L - (intOf i).toNat)
    case atStart => exact ⟨0, Nat.zero_le _, rfl⟩
    case round =>
      obtain ⟨k, hk, rfl⟩ := hrel
      by_cases hlt : k < L
      · obtain ⟨q, hq⟩ := hxp k (by omega)
        have y1 := hbf3.cell k _ hq
        by_cases e : k = j
        · have y2 : w3.cell? ⟨it, k, none⟩ = some (.pointer (some ⟨r + 1, 0, none⟩)) := p1.cell k _ (by rw [HJ.out, e]; exact List.getElem?_set_self (by omega))
          have e' : (k : Int) = (j : Int) := by omega
          have hn := neq_same (some ⟨r + 1, 0, none⟩)
          clear hq
          subst e
          clear e'
          go_wp2
          go_round
          case rel => exact ⟨k + 1, by omega, by go_num⟩
          case measure => simp [intOf]; omega
        · have y2 : w3.cell? ⟨it, k, none⟩ = some (.pointer q) := p1.cell k _ (by rw [HJ.out, List.getElem?_set_ne (Ne.symm e)]; exact hq)
          have e' : ((k : Int) == (j : Int)) = false := by simp; omega
          have hn := neq_same q
          clear hq
          go_wp2
          go_round
          case rel => exact ⟨k + 1, by omega, by go_num⟩
          case measure => simp [intOf]; omega
      · have hch := chan_nil w3
        go_wp2
        go_ret
        exact ⟨rfl, hb3.alloc (by omega) _⟩
  · obtain ⟨j, hj⟩ : ∃ j, j = h + s := ⟨_, rfl⟩
    have hjL : j < L := by omega
    have HJ : Hid ((h + s) % L = j) := by
      show _ = _
      rw [← hj, Nat.mod_eq_of_lt hjL]
    have hjj : (h : Int) + (s : Int) = (j : Int) := by omega
    clear hj
    go_wp2
    clear hjj
    go_loop [14] (fun i => ∃ k : Nat, k ≤ L ∧ i = .int .i64 k) (fun i => L - (intOf i).toNat)
    case atStart => exact ⟨0, Nat.zero_le _, rfl⟩
    case round =>
      obtain ⟨k, hk, rfl⟩ := hrel
      by_cases hlt : k < L
      · obtain ⟨q, hq⟩ := hxp k (by omega)
        have y1 := hbf3.cell k _ hq
        by_cases e : k = j
        · have y2 : w3.cell? ⟨it, k, none⟩ = some (.pointer (some ⟨r + 1, 0, none⟩)) := p1.cell k _ (by rw [HJ.out, e]; exact List.getElem?_set_self (by omega))
          have e' : (k : Int) = (j : Int) := by omega
          have hn := neq_same (some ⟨r + 1, 0, none⟩)
          clear hq
          subst e
          clear e'
          go_wp2
          go_round
          case rel => exact ⟨k + 1, by omega, by go_num⟩
          case measure => simp [intOf]; omega
        · have y2 : w3.cell? ⟨it, k, none⟩ = some (.pointer q) := p1.cell k _ (by rw [HJ.out, List.getElem?_set_ne (Ne.symm e)]; exact hq)
          have e' : ((k : Int) == (j : Int)) = false := by simp; omega
          have hn := neq_same q
          clear hq
          go_wp2
          go_round
          case rel => exact ⟨k + 1, by omega, by go_num⟩
          case measure => simp [intOf]; omega
      · have hch := chan_nil w3
        go_wp2
        go_ret
        exact ⟨rfl, hb3.alloc (by omega) _⟩

theorem walk (a0 : Int) (a1 : Int) (a2 : Int) (w0 : (Lit.int .u16 a0).wf = true) (w1 : (Lit.int .u64 a1).wf = true) (w2 : (Lit.int .u64 a2).wf = true) (w : World) :
    Calls Yba.prog 3 #[.int .u16 a0, .int .u64 a1, .int .u64 a2] w fun e w' => e = .returned (.bool true) ∧ Below w.heap.size w w' := by
  have b0 := bounds_u16 w0
  have b1 := bounds_u64 w1
  have b2 := bounds_u64 w2
  have hL : 1 + a0 % 1024 = (((1 + a0 % 1024).toNat : Nat) : Int) := by omega
  have hL2 : (1 + a0 % 1024).toNat ≤ 1024 := by omega
  have hLp : 0 < (((1 + a0 % 1024).toNat : Nat) : Int) := by omega
  generalize (1 + a0 % 1024).toNat = L at hL hL2 hLp
  have e1 := Int.emod_nonneg a1 (b := (L : Int)) (by omega)
  have e2 := Int.emod_lt_of_pos a1 hLp
  have e3 := Int.emod_nonneg a2 (b := (L : Int)) (by omega)
  have e4 := Int.emod_lt_of_pos a2 hLp
  exact walk' a0 a1 a2 L (a1 % (L : Int)).toNat (a2 % (L : Int)).toNat hL hL2 (by omega) (by omega) (by omega) (by omega) b0.1 b1.1 b2.1 b0.2 b1.2 b2.2 w

/-! ### THE ROW's STEP: WRITTEN OUT: LEAVE IT -/
set_option maxRecDepth 100000 in
theorem lifted (os : Os) (started : os.Started) (H : Type) (enc : TypeId × Value → H) :
    ReturnsInHanded {} Yba.checked os 3 .any (Rows.lawS6658BWholeSpec.pre6 enc Yba.prog Yba.f3 Rows.lawS6658BWholeRow.domain false) (Rows.lawS6658BWholeSpec.post enc Yba.prog Yba.f3 false true false false) := by
  refine returnsInHanded_of_change (C := Yba.checked) own started (by kernel_rfl) Yba.func3
    (ChangeSpec.witness6 (enc := enc) (C := Yba.checked) false ⟨#[], #[.int .u16 0, .int .u64 0, .int .u64 0], []⟩ 8 (by kernel_rfl) (by kernel_rfl) (by kernel_rfl) (by kernel_rfl)) ?_
  intro W base args ds gs before hval0 hW hcnd _
  have hval : ∀ (j : Nat) t v, Yba.f3.params[j]? = some t → args[j]? = some v → Value.okWide Yba.prog W .any base t v := hval0
  have hW' := hW
  obtain ⟨p, q, hA0, hV, rfl, hfz, hnd⟩ := hW
  have hA : DataW.TrodAll enc Yba.prog W 0 (fun _ => true) true Yba.f3.params.toList args.toList ds p := hA0
  rw [Yba.params3] at hA hval
  obtain ⟨v0, vs0, d0, ds0, p0, q0, hargs, rfl, rfl, h0, r0⟩ := trodAll_cons hA
  obtain ⟨v1, vs1, d1, ds1, p1, q1, rfl, rfl, rfl, h1, r1⟩ := trodAll_cons r0
  obtain ⟨v2, vs2, d2, ds2, p2, q2, rfl, rfl, rfl, h2, r2⟩ := trodAll_cons r1
  obtain ⟨rfl, rfl, rfl⟩ := trodAll_nil r2
  obtain rfl : args = #[v0, v1, v2] := by cases args; simp_all
  obtain ⟨rfl, rfl⟩ := trodVars_none hV
  obtain ⟨a0, rfl, rfl, rfl, w0⟩ := open_int Yba.underlying22 (hval 0 22 v0 rfl rfl) h0
  obtain ⟨a1, rfl, rfl, rfl, w1⟩ := open_int Yba.underlying23 (hval 1 23 v1 rfl rfl) h1
  obtain ⟨a2, rfl, rfl, rfl, w2⟩ := open_int Yba.underlying23 (hval 2 23 v2 rfl rfl) h2
  clear hA0 hval0
  refine (walk a0 a1 a2 w0 w1 w2 W).mono fun e W' ⟨he, bel⟩ => ?_
  subst he
  exact ⟨_, rfl, _, _, _, [], _, [], hW', trodAll_mk1 (shut_bool Yba.underlying4 _), (trodAll_cons_mk (shut_int Yba.underlying22 w0) (trodAll_cons_mk (shut_int Yba.underlying23 w1) (trodAll_cons_mk (shut_int Yba.underlying23 w2) trodAll_mk0))), rfl, bel.frame _, fun h => by cases h⟩

theorem over : Rows.lawS6658BWholeRow.holds Yba.pinned (OpenSpec.ofChange Rows.lawS6658BWholeSpec) :=
  OpenClaim.holds_of_wide 3 Yba.f3 rfl rfl rfl rfl rfl rfl rfl ⟨rfl, rfl, rfl, rfl, rfl⟩ rfl rfl rfl rfl rfl (by kernel_rfl) Yba.func3 (by kernel_rfl)
    (of_decide_eq_true (by kernel_rfl)) (by unfold Func.isWrapper; first | (rw [if_pos (by decide +kernel)]; kernel_rfl) | (rw [if_neg (by decide +kernel)]; exact ⟨rfl, rfl⟩))
    (fun os started H enc _ => lifted os started H enc)

/-- ████ THE STATEMENT ████ -/
theorem proved : Rows.LawS6658BWholeSaid :=
  over
#print axioms proved
end Go.Proofs.Ybulkegwc.lawS6658BWhole
