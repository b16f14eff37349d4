import Derived.Test.YbulkegziFmtEq
import Derived.Deep.CutBlock
import Derived.Deep.DeepCutAuto
namespace Go.Proofs.YbulkegziFmt
open Go.RowKit

/-- the text that the law hands to readUnfilled -/
def pick (sel : Int) (raw : ByteArray) : ByteArray := if sel % 3 = 0 then ⟨#[100, 101, 102, 101, 114]⟩ else if sel % 3 = 1 then ⟨#[99, 97, 110, 99, 101, 108]⟩ else raw

theorem ne_text {v : ByteArray} {l : List UInt8} (h : v ≠ ⟨l.toArray⟩) : (v.toList == l) = false := by
  rw [ByteArray.toList_eq]
  obtain ⟨⟨x⟩⟩ := v
  simp at h ⊢
  exact h

set_option maxRecDepth 100000 in
set_option maxHeartbeats 1600000 in
theorem law_any (s0 s1 s2 s3 s4 s5 : ByteArray) (hd ln sel : Int) (raw : ByteArray) (col : Int) (b0 : 0 ≤ sel) (b1 : sel ≤ 255) (w : World) :
    Calls Ybaf.prog 3 #[.string s0, .string s1, .string s2, .string s3, .string s4, .string s5, .int .i64 hd, .int .i64 ln, .int .u8 sel, .string raw, .int .i64 col] w fun e w' => e = .returned (.bool true) ∧ Below w.heap.size w w' := by
  obtain ⟨Z, hZs, hZ⟩ := ord_alloc
  have HZ : Hid (∀ w : World, (Instr.alloc 30 true (.tuple #[])).run Ybaf.prog w = .ok (.pointer (some ⟨w.heap.size, 0, none⟩)) (w.alloc (.cells Z 30))) := hZ
  clear hZ
  go_enter Ybaf.func3, Ybaf.ntmps3
  go_upto_block 0 with fail
  go_cut [23] (fun v wx => v = .string (pick sel raw) ∧ w = wx)
  case first =>
   as_aux_lemma =>
    by_cases q0 : sel % 3 = 0
    · go_wp2_with fail
      go_meet
      exact ⟨by simp [pick, q0], rfl⟩
    · by_cases q1 : sel % 3 = 1
      · go_wp2_with fail
        go_meet
        exact ⟨by simp [pick, q1], rfl⟩
      · go_wp2_with fail
        go_meet
        exact ⟨by simp [pick, q0, q1], rfl⟩
  case rest =>
   as_aux_lemma =>
    obtain ⟨rfl, rfl⟩ := hcut
    generalize pick sel raw = v
    go_upto_region 7 with fail
    go_cut [24] (fun p wx => p = .pointer (some ⟨w.heap.size, 0, none⟩) ∧ wx = w.alloc (.cells (ord s0 s1 s2 s3 s4 s5 hd ln) 30))
    case first =>
     as_aux_lemma =>
      go_wp2_with (refine wpList_build30 rfl rfl rfl rfl rfl rfl rfl rfl rfl rfl ?_)
      go_meet
      exact ⟨rfl, rfl⟩
    case rest =>
     as_aux_lemma =>
      obtain ⟨rfl, rfl⟩ := hcut
      go_upto_region 8 with fail
      go_cut [25] (fun p wx => p = .pointer (some ⟨w.heap.size + 1, 0, none⟩) ∧ wx = (w.alloc (.cells (ord s0 s1 s2 s3 s4 s5 hd ln) 30)).alloc (.cells (ord s0 s1 s2 s3 s4 s5 hd ln) 30))
      case first =>
       as_aux_lemma =>
        go_wp2_with (first | (refine wpList_load_row rfl 30 _ rfl w.heap.size rfl 30 (ord s0 s1 s2 s3 s4 s5 hd ln) (0, 0) _ (heap_alloc_new w _) Ybaf.underlying30 rfl (by kernel_rfl) ?_) | (refine wpList_alloc30 HZ.out rfl rfl ?_) | (refine wpList_store30 hZs (ord_size _ _ _ _ _ _ _ _) (ord_one _ _ _ _ _ _ _ _) rfl _ _ rfl rfl rfl ?_))
        go_meet
        exact ⟨by simp, rfl⟩
      case rest =>
       as_aux_lemma =>
        obtain ⟨rfl, rfl⟩ := hcut
        have k16 := ord_16 s0 s1 s2 s3 s4 s5 hd ln
        have ks1 := ord_set s0 s1 s2 s3 s4 s5 ⟨#[]⟩ hd ln
        have ks2 := ord_set s0 s1 s2 s3 s4 s5 ⟨#[99, 97, 110, 99, 101, 108]⟩ hd ln
        by_cases hv1 : v = ⟨#[100, 101, 102, 101, 114]⟩
        · subst hv1
          go_wp2_with fail
          refine (read_defer _ (.string s5) _ _ ?_ ?_).mono ?_
          · go_simp
          · go_simp
          rintro e w' ⟨rfl, rfl⟩
          go_upto_region 10 with fail
          go_cut [27] (fun p wx => p = .pointer (some ⟨w.heap.size + 1 + 1, 0, none⟩) ∧ wx = ((w.alloc (.cells (ord s0 s1 s2 s3 s4 ⟨#[]⟩ hd ln) 30)).alloc (.cells (ord s0 s1 s2 s3 s4 s5 hd ln) 30)).alloc (.cells (ord s0 s1 s2 s3 s4 s5 hd ln) 30))
          case first =>
           as_aux_lemma =>
            go_wp2_with (first | (refine wpList_load_row rfl 30 _ rfl (w.heap.size + 1) rfl 30 (ord s0 s1 s2 s3 s4 s5 hd ln) (0, 0) _ (heap_alloc2_new w _ _) Ybaf.underlying30 rfl (by kernel_rfl) ?_) | (refine wpList_alloc30 HZ.out rfl rfl ?_) | (refine wpList_store30 hZs (ord_size _ _ _ _ _ _ _ _) (ord_one _ _ _ _ _ _ _ _) rfl _ _ rfl rfl rfl ?_))
            go_meet
            exact ⟨by simp, rfl⟩
          case rest =>
           as_aux_lemma =>
            obtain ⟨rfl, rfl⟩ := hcut
            go_upto_region 13 with fail
            have heq := ord_eq s0 s1 s2 s3 s4 ⟨#[]⟩ hd ln
            clear k16 ks1 ks2 hZs HZ
            refine wp_region_quiet_lit (by kernel_rfl) (by kernel_rfl) ?_
            go_big_quiet_step (fail)
            go_big_quiet_step (fail)
            go_big_quiet_step (fail)
            go_big_quiet_step (fail)
            go_big_quiet_step (fail)
            go_big_quiet_want
            refine quiet_load30 _ rfl w.heap.size rfl (ord s0 s1 s2 s3 s4 ⟨#[]⟩ hd ln) rfl (by rintro x ⟨n, rfl⟩; exact heap3_0 _ _ _ _ _) ?_
            go_simp
            go_big_quiet_on
            go_big_quiet_want
            refine quiet_load30 _ rfl (w.heap.size + 1 + 1) rfl (ord s0 s1 s2 s3 s4 ⟨#[]⟩ hd ln) rfl (by rintro x ⟨n, rfl⟩; exact heap3_2 _ _ _ _ _) ?_
            go_simp
            go_big_quiet_on
            go_big_quiet_step (fail)
            go_big_quiet_step (fail)
            go_big_quiet_step (fail)
            refine wpQuiet_nil ?_
            intro _ hw'
            obtain ⟨nq, hw'⟩ := hw'
            subst hw'
            go_wp2
            go_ret
            exact ⟨rfl, below_drewN ((((Below.refl _ _).alloc (Nat.le_refl _) _).alloc (by simp) _).alloc (by simp; omega) _) _⟩
        by_cases hv2 : v = ⟨#[99, 97, 110, 99, 101, 108]⟩
        · subst hv2
          go_wp2_with fail
          refine (read_cancel _ (.string s5) _ _ ?_ ?_).mono ?_
          · go_simp
          · go_simp
          rintro e w' ⟨rfl, rfl⟩
          go_upto_region 10 with fail
          go_cut [27] (fun p wx => p = .pointer (some ⟨w.heap.size + 1 + 1, 0, none⟩) ∧ wx = ((w.alloc (.cells (ord s0 s1 s2 s3 s4 ⟨#[99, 97, 110, 99, 101, 108]⟩ hd ln) 30)).alloc (.cells (ord s0 s1 s2 s3 s4 s5 hd ln) 30)).alloc (.cells (ord s0 s1 s2 s3 s4 s5 hd ln) 30))
          case first =>
           as_aux_lemma =>
            go_wp2_with (first | (refine wpList_load_row rfl 30 _ rfl (w.heap.size + 1) rfl 30 (ord s0 s1 s2 s3 s4 s5 hd ln) (0, 0) _ (heap_alloc2_new w _ _) Ybaf.underlying30 rfl (by kernel_rfl) ?_) | (refine wpList_alloc30 HZ.out rfl rfl ?_) | (refine wpList_store30 hZs (ord_size _ _ _ _ _ _ _ _) (ord_one _ _ _ _ _ _ _ _) rfl _ _ rfl rfl rfl ?_))
            go_meet
            exact ⟨by simp, rfl⟩
          case rest =>
           as_aux_lemma =>
            obtain ⟨rfl, rfl⟩ := hcut
            go_upto_region 16 with fail
            have heq := ord_eq s0 s1 s2 s3 s4 ⟨#[99, 97, 110, 99, 101, 108]⟩ hd ln
            clear k16 ks1 ks2 hZs HZ
            refine wp_region_quiet_lit (by kernel_rfl) (by kernel_rfl) ?_
            go_big_quiet_step (fail)
            go_big_quiet_step (fail)
            go_big_quiet_step (fail)
            go_big_quiet_step (fail)
            go_big_quiet_step (fail)
            go_big_quiet_want
            refine quiet_load30 _ rfl w.heap.size rfl (ord s0 s1 s2 s3 s4 ⟨#[99, 97, 110, 99, 101, 108]⟩ hd ln) rfl (by rintro x ⟨n, rfl⟩; exact heap3_0 _ _ _ _ _) ?_
            go_simp
            go_big_quiet_on
            go_big_quiet_want
            refine quiet_load30 _ rfl (w.heap.size + 1 + 1) rfl (ord s0 s1 s2 s3 s4 ⟨#[99, 97, 110, 99, 101, 108]⟩ hd ln) rfl (by rintro x ⟨n, rfl⟩; exact heap3_2 _ _ _ _ _) ?_
            go_simp
            go_big_quiet_on
            go_big_quiet_step (fail)
            go_big_quiet_step (fail)
            go_big_quiet_step (fail)
            refine wpQuiet_nil ?_
            intro _ hw'
            obtain ⟨nq, hw'⟩ := hw'
            subst hw'
            go_wp2
            go_ret
            exact ⟨rfl, below_drewN ((((Below.refl _ _).alloc (Nat.le_refl _) _).alloc (by simp) _).alloc (by simp; omega) _) _⟩
        · have t1 : (v.toList == [100, 101, 102, 101, 114]) = false := ne_text hv1
          have t2 : (v.toList == [99, 97, 110, 99, 101, 108]) = false := ne_text hv2
          go_wp2_with fail
          refine (read_other _ v _ _ t1 t2).mono ?_
          rintro e X' ⟨rfl, sx, nx, hX⟩
          have x0 : X'.heap[w.heap.size]? = some (.cells (ord s0 s1 s2 s3 s4 s5 hd ln) 30 (0, 0)) := by
            rw [hX, World.heap_drewN, Below.heap_alloc _ _ _ (by simp; omega), Below.heap_alloc _ _ _ (by simp; omega)]; exact heap_alloc2_old w _ _
          have x1 : X'.heap[w.heap.size + 1]? = some (.cells (ord s0 s1 s2 s3 s4 s5 hd ln) 30 (0, 0)) := by
            rw [hX, World.heap_drewN, Below.heap_alloc _ _ _ (by simp), Below.heap_alloc _ _ _ (by simp)]; exact heap_alloc2_new w _ _
          have x2 : w.heap.size + 1 < X'.heap.size := by rw [hX]; simp
          have HB : Hid (Below w.heap.size w X') := by
            show Below _ _ _
            rw [hX]
            exact below_drewN (((((Below.refl _ _).alloc (Nat.le_refl _) _).alloc (by simp) _).alloc (by simp; omega) _).alloc (by simp; omega) _) _
          clear hX ks1 ks2 k16
          go_upto_region 10 with fail
          go_cut [27] (fun p wx => p = .pointer (some ⟨X'.heap.size, 0, none⟩) ∧ wx = X'.alloc (.cells (ord s0 s1 s2 s3 s4 s5 hd ln) 30))
          case first =>
           as_aux_lemma =>
            go_wp2_with (first | (refine wpList_load_row rfl 30 _ rfl (w.heap.size + 1) rfl 30 (ord s0 s1 s2 s3 s4 s5 hd ln) (0, 0) _ x1 Ybaf.underlying30 rfl (by kernel_rfl) ?_) | (refine wpList_alloc30 HZ.out rfl rfl ?_) | (refine wpList_store30 hZs (ord_size _ _ _ _ _ _ _ _) (ord_one _ _ _ _ _ _ _ _) rfl _ _ rfl rfl rfl ?_))
            go_meet
            exact ⟨rfl, rfl⟩
          case rest =>
           as_aux_lemma =>
            obtain ⟨rfl, rfl⟩ := hcut
            have heq := ord_eq s0 s1 s2 s3 s4 s5 hd ln
            clear hZs HZ
            go_upto_region 17 with fail
            refine wp_region_quiet_lit (by kernel_rfl) (by kernel_rfl) ?_
            go_big_quiet_step (fail)
            go_big_quiet_step (fail)
            go_big_quiet_step (fail)
            go_big_quiet_step (fail)
            go_big_quiet_step (fail)
            go_big_quiet_want
            refine quiet_load30 _ rfl w.heap.size rfl (ord s0 s1 s2 s3 s4 s5 hd ln) rfl (by rintro x ⟨n, rfl⟩; rw [World.heap_drewN, Below.heap_alloc _ _ _ (by omega)]; exact x0) ?_
            go_simp
            go_big_quiet_on
            go_big_quiet_want
            refine quiet_load30 _ rfl (w.heap.size + 1) rfl (ord s0 s1 s2 s3 s4 s5 hd ln) rfl (by rintro x ⟨n, rfl⟩; rw [World.heap_drewN, Below.heap_alloc _ _ _ x2]; exact x1) ?_
            go_simp
            go_big_quiet_on
            go_big_quiet_step (fail)
            go_big_quiet_step (fail)
            go_big_quiet_step (fail)
            refine wpQuiet_nil ?_
            intro _ hw'
            obtain ⟨nq, hw'⟩ := hw'
            subst hw'
            go_wp2
            go_ret
            exact ⟨rfl, below_drewN (HB.out.alloc (by omega) _) _⟩
end Go.Proofs.YbulkegziFmt
