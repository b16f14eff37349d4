import Derived.Test.YbulkegwcLawC2
namespace Go.Proofs.Ybulkegwc
open Go.RowKit


set_option maxRecDepth 100000 in
set_option maxHeartbeats 4000000 in
theorem law_grow (a0 : Int) (a2 a3 : Int) (a4 : Bool) (a5 a6 : Int) (a7 : Bool) (a8 a9 : Int) (x s st idle : Int) (x0 : 0 ≤ x) (x1 : x ≤ 2147483647) (s0 : 0 ≤ s) (s1 : s ≤ 2147483647) (t0 : 0 ≤ st) (t1 : st ≤ 2147483647) (i0 : 0 ≤ idle) (i1 : idle ≤ 2147483647)
    (hx : bits .and .u32 a2 2147483647 = x) (hs : bits .and .u32 a3 2147483647 = s) (ht : bits .and .u32 a5 2147483647 = st) (hi : bits .and .u32 a8 2147483647 = idle) (w : World) (q1 : 0 ≤ a0) (q2 : a0 < a9) :
    Calls Yba.prog 5 #[.int .i64 a0, .bool false, .int .u32 a2, .int .u32 a3, .bool a4, .int .u32 a5, .int .i32 a6, .bool a7, .int .u32 a8, .int .i64 a9] w fun e w' => e = .returned (.bool true) ∧ Below w.heap.size w w' := by
  have hmk := mk_room
  have hor : bits .or .i64 (bits .or .i64 (s * 2147483648) x) (clb a4) = ST s x a4 := ST_or (c := a4) s0 s1 x0 x1
  go_enter Yba.func5, Yba.ntmps5
  go_upto_if 56 with fail
  go_cut [25] (fun cb wx => cb = .int .i64 (clb a4) ∧ w = wx)
  case first =>
   as_aux_lemma =>
    cases a4
    all_goals
      go_wp2_with fail
      go_meet
      exact ⟨rfl, rfl⟩
  case rest =>
   as_aux_lemma =>
    obtain ⟨rfl, rfl⟩ := hcut
    go_wp2_with fail
    refine (i64_store _ _ _ (.int .i64 0) a0 ?_ ?_).mono ?_
    · go_simp
    · go_simp
    rintro e w' ⟨rfl, rfl⟩
    go_wp2_with fail
    refine (i64_store _ _ _ (.int .i64 0) _ ?_ ?_).mono ?_
    · go_simp
    · go_simp
    rintro e w' ⟨rfl, rfl⟩
    go_wp2_with fail
    refine (i32_store _ _ _ (.int .i32 0) _ ?_ ?_).mono ?_
    · go_simp
    · go_simp
    rintro e w' ⟨rfl, rfl⟩
    go_wp2_with fail
    refine (bool_store _ _ _ (.int .u32 0) _ ?_ ?_).mono ?_
    · go_simp
    · go_simp
    rintro e w' ⟨rfl, n, rfl⟩
    go_upto_region 15 with fail
    go_cut [29] (fun c wx => c = .int .i64 a0 ∧ Laid w wx a0 false x s st idle a4 a6 a7)
    case first =>
     as_aux_lemma =>
      go_wp2_with fail
      go_meet
      exact ⟨rfl, laid_of _ _ _ _ _ _ _ _ _ _ _⟩
    case rest =>
     as_aux_lemma =>
      obtain ⟨rfl, hL⟩ := hcut
      clear hmk hx hs ht hi
      generalize wc = wl at hL ⊢
      go_upto_region 24 with fail
      go_cut [38] (fun c wy => c = .bool false ∧ wl = wy)
      case first =>
       as_aux_lemma =>
        go_wp2_with fail
        go_meet
        exact ⟨by first | rfl | (simp; omega), rfl⟩
      case rest =>
       as_aux_lemma =>
        obtain ⟨rfl, rfl⟩ := hcut
        have HL : Hid (Laid w wl a0 false x s st idle a4 a6 a7) := hL
        obtain ⟨l1, l2, l3, l4, l5, hb⟩ := hL
        have m0 : wl.cell? ⟨w.heap.size + 1 + 1 + 1, 0, none⟩ = some (.int .i64 a0) := by simp [World.cell?, l4]
        have m1 : wl.cell? ⟨w.heap.size + 1 + 1 + 1, 1, none⟩ = some (.pointer (some ⟨w.heap.size + 1, 0, none⟩)) := by simp [World.cell?, l4]
        have m4 : wl.cell? ⟨w.heap.size + 1 + 1 + 1, 4, none⟩ = some (.int .i64 (ST s x a4)) := by simp [World.cell?, l4]
        have m6 : wl.cell? ⟨w.heap.size + 1 + 1 + 1, 6, none⟩ = some (.int .i32 a6) := by simp [World.cell?, l4]
        have m7 : wl.cell? ⟨w.heap.size + 1 + 1 + 1, 7, none⟩ = some (.chan (some (w.heap.size + 1 + 1))) := by simp [World.cell?, l4]
        have m8 : wl.cell? ⟨w.heap.size + 1 + 1 + 1, 8, none⟩ = some (.int .u32 (bi a7)) := by simp [World.cell?, l4]
        have m9 : wl.cell? ⟨w.heap.size + 1 + 1 + 1, 9, none⟩ = some (.int .i32 0) := by simp [World.cell?, l4]
        have m11 : wl.cell? ⟨w.heap.size + 1 + 1 + 1, 11, none⟩ = some (.iface 44 (.pointer (some ⟨w.heap.size, 0, none⟩))) := by simp [World.cell?, l4]
        have m12 : wl.cell? ⟨w.heap.size + 1 + 1 + 1, 12, none⟩ = some (.int .i64 st) := by simp [World.cell?, l4]
        have mf : ∀ o, wl.frozen? ⟨w.heap.size + 1 + 1 + 1, o, none⟩ = false := by intro o; simp [World.frozen?, l4]
        have mo : wl.cell? ⟨w.heap.size + 1, 6, none⟩ = some (.bool false) := by simp [World.cell?, l2]
        have mz0 : wl.cell? ⟨w.heap.size, 0, none⟩ = some (.int .i64 idle) := by simp [World.cell?, l1]
        have mz1 : wl.cell? ⟨w.heap.size, 1, none⟩ = some (.slice none 0 0) := by simp [World.cell?, l1]
        have ht := tune_grow wl (w.heap.size + 1 + 1 + 1) (w.heap.size + 1) (w.heap.size + 1 + 1) a0 a9 a6 a7 m0 m1 mo m6 m7 m8 l3 (by omega) m9 mf q1 q2
        clear l1 l2 l3 l4 l5 hb m0 m1 m4 m6 m7 m8 m9 m11 m12 mf mo mz0 mz1
        by_cases e6 : a6 = 0
        · subst e6
          go_wp2_with fail
          refine ht.mono ?_
          rintro e w3 ⟨rfl, ⟨_, rfl⟩ | ⟨⟨h, _⟩, _⟩⟩
          · obtain ⟨m0, m4, m6, m7, m8, m9, m12, mf9, hlen, mz0, mz1, hb⟩ := after_growA HL.out a9
            generalize wl.setCell ⟨w.heap.size + 1 + 1 + 1, 0, none⟩ (.int .i64 a9) = w3 at *
            have HB : Hid (Below w.heap.size w w3) := hb
            clear ht hb HL
            go_wp2_with fail
            refine (i64_load _ _ _ _ m0).mono ?_
            rintro e w' ⟨rfl, rfl⟩
            go_wp2_with fail
            refine (i64_load _ _ _ _ m4).mono ?_
            rintro e w' ⟨rfl, rfl⟩
            go_wp2_with fail
            refine (bool_load _ _ _ _ m8).mono ?_
            rintro e w' ⟨rfl, rfl⟩
            go_wp2_with fail
            refine (i32_load _ _ _ _ m6).mono ?_
            rintro e w' ⟨rfl, rfl⟩
            go_wp2_with fail
            refine (try_free _ _ _ m9 mf9).mono ?_
            rintro e w' ⟨rfl, rfl⟩
            go_wp2_with fail
            refine (unlock_held _ _ _ (World.cell?_setCell_same _ _ _ m9) (by simp [mf9])).mono ?_
            rintro e w' ⟨rfl, rfl⟩
            go_wp2_with fail
            go_ret
            exact ⟨rfl, (HB.out.setCell (by simp; omega) _).setCell (by simp; omega) _⟩
          · first | exact absurd trivial h | exact absurd rfl h
        · have e6' : (a6 != 0) = true := by simp [e6]
          cases a7
          · go_wp2_with fail
            refine ht.mono ?_
            rintro e w3 ⟨rfl, ⟨h | h, _⟩ | ⟨_, n2, rfl⟩⟩
            · exact absurd h e6
            · cases h
            · obtain ⟨m0, m4, m6, m7, m8, m9, m12, mf9, hlen, mz0, mz1, hb⟩ := after_growB HL.out a9 n2
              generalize ((((wl.setCell ⟨w.heap.size + 1 + 1 + 1, 0, none⟩ (.int .i64 a9)).setCell ⟨w.heap.size + 1 + 1 + 1, 8, none⟩ (.int .u32 1)).drewN n2).setChan (w.heap.size + 1 + 1) 1 #[.agg #[]] false 1 0 false) = w3 at *
              have HB : Hid (Below w.heap.size w w3) := hb
              clear ht hb HL
              go_wp2_with fail
              refine (i64_load _ _ _ _ m0).mono ?_
              rintro e w' ⟨rfl, rfl⟩
              go_wp2_with fail
              refine (i64_load _ _ _ _ m4).mono ?_
              rintro e w' ⟨rfl, rfl⟩
              go_wp2_with fail
              refine (bool_load _ _ _ _ m8).mono ?_
              rintro e w' ⟨rfl, rfl⟩
              go_wp2_with fail
              refine (i32_load _ _ _ _ m6).mono ?_
              rintro e w' ⟨rfl, rfl⟩
              go_wp2_with fail
              refine (try_free _ _ _ m9 mf9).mono ?_
              rintro e w' ⟨rfl, rfl⟩
              go_wp2_with fail
              refine (unlock_held _ _ _ (World.cell?_setCell_same _ _ _ m9) (by simp [mf9])).mono ?_
              rintro e w' ⟨rfl, rfl⟩
              go_wp2_with fail
              go_ret
              exact ⟨rfl, (HB.out.setCell (by simp; omega) _).setCell (by simp; omega) _⟩
          · go_wp2_with fail
            refine ht.mono ?_
            rintro e w3 ⟨rfl, ⟨_, rfl⟩ | ⟨⟨_, h⟩, _⟩⟩
            · obtain ⟨m0, m4, m6, m7, m8, m9, m12, mf9, hlen, mz0, mz1, hb⟩ := after_growA HL.out a9
              generalize wl.setCell ⟨w.heap.size + 1 + 1 + 1, 0, none⟩ (.int .i64 a9) = w3 at *
              have HB : Hid (Below w.heap.size w w3) := hb
              clear ht hb HL
              go_wp2_with fail
              refine (i64_load _ _ _ _ m0).mono ?_
              rintro e w' ⟨rfl, rfl⟩
              go_wp2_with fail
              refine (i64_load _ _ _ _ m4).mono ?_
              rintro e w' ⟨rfl, rfl⟩
              go_wp2_with fail
              refine (bool_load _ _ _ _ m8).mono ?_
              rintro e w' ⟨rfl, rfl⟩
              go_wp2_with fail
              refine (i32_load _ _ _ _ m6).mono ?_
              rintro e w' ⟨rfl, rfl⟩
              go_wp2_with fail
              refine (try_free _ _ _ m9 mf9).mono ?_
              rintro e w' ⟨rfl, rfl⟩
              go_wp2_with fail
              refine (unlock_held _ _ _ (World.cell?_setCell_same _ _ _ m9) (by simp [mf9])).mono ?_
              rintro e w' ⟨rfl, rfl⟩
              go_wp2_with fail
              go_ret
              exact ⟨rfl, (HB.out.setCell (by simp; omega) _).setCell (by simp; omega) _⟩
            · cases h
end Go.Proofs.Ybulkegwc
