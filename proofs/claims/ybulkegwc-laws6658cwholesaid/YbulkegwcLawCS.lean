import Derived.Test.YbulkegwcLawC2
namespace Go.Proofs.Ybulkegwc
open Go.RowKit

set_option maxRecDepth 100000 in
set_option maxHeartbeats 400000 in
theorem zmax_any (a b : Int) (w : World) : Calls Yba.prog 13 #[.int .i64 a, .int .i64 b] w fun e w' => e = .returned (.int .i64 (mx a b)) ∧ w = w' := by
  by_cases h : b < a
  · have e : mx a b = a := by unfold mx; rw [if_neg (by omega)]
    rw [e]
    go_enter Yba.func13, Yba.ntmps13
    go_wp2
    go_ret
    exact ⟨rfl, rfl⟩
  · have e : mx a b = b := by unfold mx; split <;> omega
    rw [e]
    go_enter Yba.func13, Yba.ntmps13
    go_wp2
    go_ret
    exact ⟨rfl, rfl⟩
set_option maxRecDepth 100000 in
set_option maxHeartbeats 400000 in
theorem zmin_any (a b : Int) (w : World) : Calls Yba.prog 14 #[.int .i64 a, .int .i64 b] w fun e w' => e = .returned (.int .i64 (mn a b)) ∧ w = w' := by
  by_cases h : a < b
  · have e : mn a b = a := by unfold mn; rw [if_neg (by omega)]
    rw [e]
    go_enter Yba.func14, Yba.ntmps14
    go_wp2
    go_ret
    exact ⟨rfl, rfl⟩
  · have e : mn a b = b := by unfold mn; split <;> omega
    rw [e]
    go_enter Yba.func14, Yba.ntmps14
    go_wp2
    go_ret
    exact ⟨rfl, rfl⟩

set_option maxRecDepth 100000 in
set_option maxHeartbeats 4000000 in
theorem law_shrink (a0 : Int) (a2 a3 : Int) (a4 : Bool) (a5 a6 : Int) (a7 : Bool) (a8 a9 : Int) (x s st idle : Int) (x0 : 0 ≤ x) (x1 : x ≤ 2147483647) (s0 : 0 ≤ s) (s1 : s ≤ 2147483647) (t0 : 0 ≤ st) (t1 : st ≤ 2147483647) (i0 : 0 ≤ idle) (i1 : idle ≤ 2147483647)
    (hx : bits .and .u32 a2 2147483647 = x) (hs : bits .and .u32 a3 2147483647 = s) (ht : bits .and .u32 a5 2147483647 = st) (hi : bits .and .u32 a8 2147483647 = idle) (w : World) (q1 : 0 < a9) (q2 : a9 < a0) (q3 : a0 ≤ 9223372036854775807) :
    Calls Yba.prog 5 #[.int .i64 a0, .bool false, .int .u32 a2, .int .u32 a3, .bool a4, .int .u32 a5, .int .i32 a6, .bool a7, .int .u32 a8, .int .i64 a9] w fun e w' => e = .returned (.bool true) ∧ Below w.heap.size w w' := by
  have hmk := mk_room
  have hor : bits .or .i64 (bits .or .i64 (s * 2147483648) x) (clb a4) = ST s x a4 := ST_or (c := a4) s0 s1 x0 x1
  go_enter Yba.func5, Yba.ntmps5
  go_upto_if 56 with fail
  go_cut [25] (fun cb wx => cb = .int .i64 (clb a4) ∧ w = wx)
  case first =>
   as_aux_lemma =>
    cases a4
    all_goals
      go_wp2_with fail
      go_meet
      exact ⟨rfl, rfl⟩
  case rest =>
   as_aux_lemma =>
    obtain ⟨rfl, rfl⟩ := hcut
    go_wp2_with fail
    refine (i64_store _ _ _ (.int .i64 0) a0 ?_ ?_).mono ?_
    · go_simp
    · go_simp
    rintro e w' ⟨rfl, rfl⟩
    go_wp2_with fail
    refine (i64_store _ _ _ (.int .i64 0) _ ?_ ?_).mono ?_
    · go_simp
    · go_simp
    rintro e w' ⟨rfl, rfl⟩
    go_wp2_with fail
    refine (i32_store _ _ _ (.int .i32 0) _ ?_ ?_).mono ?_
    · go_simp
    · go_simp
    rintro e w' ⟨rfl, rfl⟩
    go_wp2_with fail
    refine (bool_store _ _ _ (.int .u32 0) _ ?_ ?_).mono ?_
    · go_simp
    · go_simp
    rintro e w' ⟨rfl, n, rfl⟩
    go_upto_region 15 with fail
    go_cut [29] (fun c wx => c = .int .i64 a0 ∧ Laid w wx a0 false x s st idle a4 a6 a7)
    case first =>
     as_aux_lemma =>
      go_wp2_with fail
      go_meet
      exact ⟨rfl, laid_of _ _ _ _ _ _ _ _ _ _ _⟩
    case rest =>
     as_aux_lemma =>
      obtain ⟨rfl, hL⟩ := hcut
      clear hmk hx hs ht hi
      generalize wc = wl at hL ⊢
      go_upto_region 24 with fail
      go_cut [38] (fun c wy => c = .bool false ∧ wl = wy)
      case first =>
       as_aux_lemma =>
        go_wp2_with fail
        go_meet
        exact ⟨by first | rfl | (simp; omega), rfl⟩
      case rest =>
       as_aux_lemma =>
        obtain ⟨rfl, rfl⟩ := hcut
        have HL : Hid (Laid w wl a0 false x s st idle a4 a6 a7) := hL
        obtain ⟨l1, l2, l3, l4, l5, hb⟩ := hL
        have m0 : wl.cell? ⟨w.heap.size + 1 + 1 + 1, 0, none⟩ = some (.int .i64 a0) := by simp [World.cell?, l4]
        have m1 : wl.cell? ⟨w.heap.size + 1 + 1 + 1, 1, none⟩ = some (.pointer (some ⟨w.heap.size + 1, 0, none⟩)) := by simp [World.cell?, l4]
        have m4 : wl.cell? ⟨w.heap.size + 1 + 1 + 1, 4, none⟩ = some (.int .i64 (ST s x a4)) := by simp [World.cell?, l4]
        have m6 : wl.cell? ⟨w.heap.size + 1 + 1 + 1, 6, none⟩ = some (.int .i32 a6) := by simp [World.cell?, l4]
        have m7 : wl.cell? ⟨w.heap.size + 1 + 1 + 1, 7, none⟩ = some (.chan (some (w.heap.size + 1 + 1))) := by simp [World.cell?, l4]
        have m8 : wl.cell? ⟨w.heap.size + 1 + 1 + 1, 8, none⟩ = some (.int .u32 (bi a7)) := by simp [World.cell?, l4]
        have m9 : wl.cell? ⟨w.heap.size + 1 + 1 + 1, 9, none⟩ = some (.int .i32 0) := by simp [World.cell?, l4]
        have m11 : wl.cell? ⟨w.heap.size + 1 + 1 + 1, 11, none⟩ = some (.iface 44 (.pointer (some ⟨w.heap.size, 0, none⟩))) := by simp [World.cell?, l4]
        have m12 : wl.cell? ⟨w.heap.size + 1 + 1 + 1, 12, none⟩ = some (.int .i64 st) := by simp [World.cell?, l4]
        have mf : ∀ o, wl.frozen? ⟨w.heap.size + 1 + 1 + 1, o, none⟩ = false := by intro o; simp [World.frozen?, l4]
        have mo : wl.cell? ⟨w.heap.size + 1, 6, none⟩ = some (.bool false) := by simp [World.cell?, l2]
        have mz0 : wl.cell? ⟨w.heap.size, 0, none⟩ = some (.int .i64 idle) := by simp [World.cell?, l1]
        have mz1 : wl.cell? ⟨w.heap.size, 1, none⟩ = some (.slice none 0 0) := by simp [World.cell?, l1]
        have ht := tune_shrink wl (w.heap.size + 1 + 1 + 1) (w.heap.size + 1) w.heap.size a0 a9 s x st idle a4 s0 s1 x0 x1 t0 t1 i0 i1 m0 m1 mo m4 m11 m12 l1 (by omega) m9 mf q1 q2 q3
        clear l1 l2 l3 l4 l5 hb m0 m1 m4 m6 m7 m8 m9 m11 m12 mf mo mz0 mz1
        have b1 := mx_bd s st
        have b2 : 0 ≤ mx s st := by omega
        have b3 : mx s st ≤ 2147483647 := by omega
        have b4 := mn_bd (x - a9) (x - mx s st)
        have b5 : mn (x - a9) (x - mx s st) ≤ 2147483647 := by omega
        have hy := ltg_bd s x st (x - a9) s0 x0 x1
        have q2' : ¬ a0 < a9 := by omega
        clear b1 b4
        go_upto_if 137 with (first | (go_at_call 13; refine (zmax_any _ _ _).mono ?_; rintro e w' ⟨rfl, rfl⟩) | (go_at_call 14; refine (zmin_any _ _ _).mono ?_; rintro e w' ⟨rfl, rfl⟩))
        go_cut [31] (fun v wy => v = .int .i64 (ltg s x st (x - a9)) ∧ wl = wy)
        case first =>
         as_aux_lemma =>
          by_cases hk : 0 < mn (x - a9) (x - mx s st)
          · have E : Hid (ltg s x st (x - a9) = x - mn (x - a9) (x - mx s st)) := by show _ = _; unfold ltg; rw [if_pos hk]
            clear ht hy
            go_wp2_with fail
            go_meet
            exact ⟨by rw [E.out], rfl⟩
          · have E : Hid (ltg s x st (x - a9) = x) := by show _ = _; unfold ltg; rw [if_neg hk]
            clear ht hy
            go_wp2_with fail
            go_meet
            exact ⟨by rw [E.out], rfl⟩
        case rest =>
         as_aux_lemma =>
          obtain ⟨rfl, rfl⟩ := hcut
          clear b2 b3 b5
          generalize ltg s x st (x - a9) = y at ht hy ⊢
          have y0 := hy.1
          have y1 : y ≤ 2147483647 := by omega
          clear hy
          go_upto_if 145 with fail
          go_cut [37] (fun v wy => v = .int .i64 (stp (y - a9) idle) ∧ wl = wy)
          case first =>
           as_aux_lemma =>
            by_cases hk : 0 < y - a9
            · have E : Hid (stp (y - a9) idle = mn (y - a9) idle) := by show _ = _; unfold stp; rw [if_pos hk]
              clear ht
              go_wp2_with (first | (go_at_call 13; refine (zmax_any _ _ _).mono ?_; rintro e w' ⟨rfl, rfl⟩) | (go_at_call 14; refine (zmin_any _ _ _).mono ?_; rintro e w' ⟨rfl, rfl⟩))
              go_meet
              exact ⟨by rw [E.out], rfl⟩
            · have E : Hid (stp (y - a9) idle = 0) := by show _ = _; unfold stp; rw [if_neg hk]
              clear ht
              go_wp2_with fail
              go_meet
              exact ⟨by rw [E.out], rfl⟩
          case rest =>
           as_aux_lemma =>
            obtain ⟨rfl, rfl⟩ := hcut
            have hrb := stp_bd (y - a9) idle i0
            obtain ⟨r, hr⟩ : ∃ r, stp (y - a9) idle = r := ⟨_, rfl⟩
            rw [hr] at hrb ⊢
            have HR : Hid (stp (y - a9) idle = r) := hr
            have r0 := hrb.1
            have r1 : r ≤ 2147483647 := by omega
            have c1 := mx_bd s (st - r)
            have c2 : 0 ≤ mx s (st - r) := by omega
            have c3 : mx s (st - r) ≤ 2147483647 := by omega
            have c4 := mn_bd r (y - mx s (st - r))
            have c5 : mn r (y - mx s (st - r)) ≤ 2147483647 := by omega
            have c6 : -2147483648 ≤ mn r (y - mx s (st - r)) := by omega
            have hv := ltg_bd s y (st - r) r s0 y0 y1
            clear hr hrb c1 c4
            go_upto_if 161 with (first | (go_at_call 13; refine (zmax_any _ _ _).mono ?_; rintro e w' ⟨rfl, rfl⟩) | (go_at_call 14; refine (zmin_any _ _ _).mono ?_; rintro e w' ⟨rfl, rfl⟩))
            go_cut [31] (fun v wy => v = .int .i64 (ltg s y (st - r) r) ∧ wl = wy)
            case first =>
             as_aux_lemma =>
              by_cases hk : 0 < mn r (y - mx s (st - r))
              · have E : Hid (ltg s y (st - r) r = y - mn r (y - mx s (st - r))) := by show _ = _; unfold ltg; rw [if_pos hk]
                clear ht hv
                go_wp2_with fail
                go_meet
                exact ⟨by rw [E.out], rfl⟩
              · have E : Hid (ltg s y (st - r) r = y) := by show _ = _; unfold ltg; rw [if_neg hk]
                clear ht hv
                go_wp2_with fail
                go_meet
                exact ⟨by rw [E.out], rfl⟩
            case rest =>
             as_aux_lemma =>
              obtain ⟨rfl, rfl⟩ := hcut
              clear c2 c3 c5 c6
              have AF : Hid (∀ w3, Shrunk wl w3 (w.heap.size + 1 + 1 + 1) w.heap.size a9 s y st idle a4 → ∃ g cap, After w w3 a9 (ST s (ltg s y (st - r) r) a4) a6 a7 (st - r) 0 (idle - r) (.slice (some ⟨g, 0, none⟩) 1 cap) ∧ w3.cell? ⟨g, 0, none⟩ = some (.int .i64 (y - a9))) := by
                intro w3 hS
                have := after_shrink HL.out hS
                rw [HR.out] at this
                exact this
              generalize ltg s y (st - r) r = z at hv AF ⊢
              have z0 := hv.1
              have z1 : z ≤ 2147483647 := by omega
              have hor2 : bits .or .i64 (bits .or .i64 (s * 2147483648) z) (clb a4) = ST s z a4 := ST_or (c := a4) s0 s1 z0 z1
              clear hv hor
              go_wp2_with fail
              refine ht.mono ?_
              rintro e w3 ⟨rfl, hS⟩
              obtain ⟨g, cap, hA, hg⟩ := AF.out w3 hS
              obtain ⟨m0, m4, m6, m7, m8, m9, m12, mf9, hlen, mz0, mz1, hb⟩ := hA
              have HB : Hid (Below w.heap.size w w3) := hb
              clear ht hb HL HR AF hS
              go_wp2_with fail
              refine (i64_load _ _ _ _ m0).mono ?_
              rintro e w' ⟨rfl, rfl⟩
              go_wp2_with fail
              refine (i64_load _ _ _ _ m4).mono ?_
              rintro e w' ⟨rfl, rfl⟩
              go_wp2_with fail
              refine (bool_load _ _ _ _ m8).mono ?_
              rintro e w' ⟨rfl, rfl⟩
              go_wp2_with fail
              refine (i32_load _ _ _ _ m6).mono ?_
              rintro e w' ⟨rfl, rfl⟩
              go_wp2_with fail
              refine (try_free _ _ _ m9 mf9).mono ?_
              rintro e w' ⟨rfl, rfl⟩
              go_wp2_with fail
              refine (unlock_held _ _ _ (World.cell?_setCell_same _ _ _ m9) (by simp [mf9])).mono ?_
              rintro e w' ⟨rfl, rfl⟩
              go_wp2_with fail
              go_ret
              exact ⟨rfl, (HB.out.setCell (by simp; omega) _).setCell (by simp; omega) _⟩
end Go.Proofs.Ybulkegwc
