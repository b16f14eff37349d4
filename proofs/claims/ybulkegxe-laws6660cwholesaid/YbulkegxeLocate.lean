import Derived.Test.YbulkegxeIndex
import Derived.RegionTactic
import Derived.BigRegion
namespace Go.Proofs.Ybulkegxe
open Go.RowKit
set_option linter.unusedVariables false

theorem Yba.size48 : (Yba.prog.info? 48).map (·.size) = some 49 := by kernel_rfl

set_option maxRecDepth 100000 in
set_option maxHeartbeats 800000 in
theorem bucketAt_far (tb B O b d c : Nat) (w : World) (hc : w.cell? ⟨tb, 34, none⟩ = some (.slice (some ⟨B, O, none⟩) d c)) (hd : 24 < d) (hd2 : d ≤ 257) (hb : b < d) :
    Calls Yba.prog 18 #[.pointer (some ⟨tb, 0, none⟩), .int .i64 (b : Int)] w fun e w' => e = .returned (.pointer (some ⟨B, O + b * 49, none⟩)) ∧ w' = w := by
  go_enter Yba.func18, Yba.ntmps18
  go_wp2
  go_ret
  exact ⟨rfl, rfl⟩
set_option maxRecDepth 100000 in
set_option maxHeartbeats 800000 in
theorem bucketAt_near (tb B O b d c : Nat) (w : World) (hc : w.cell? ⟨tb, 34, none⟩ = some (.slice (some ⟨B, O, none⟩) d c)) (hd : d ≤ 24) (hb : b < d) :
    Calls Yba.prog 18 #[.pointer (some ⟨tb, 0, none⟩), .int .i64 (b : Int)] w fun e w' => e = .returned (.pointer (some ⟨tb, 53 + b * 49, none⟩)) ∧ w' = w := by
  go_enter Yba.func18, Yba.ntmps18
  go_wp2
  go_ret
  exact ⟨rfl, rfl⟩
set_option maxRecDepth 100000 in
set_option maxHeartbeats 800000 in
theorem entries_own (B o : Nat) (kg kc n : Nat) (w : World) (h2 : w.cell? ⟨B, o + 2, none⟩ = some (.bool true)) (h4 : w.cell? ⟨B, o + 4, none⟩ = some (.slice (some ⟨kg, 0, none⟩) n kc)) (hn : n ≤ 20) (hB : B < w.heap.size) :
    Calls Yba.prog 19 #[.pointer (some ⟨B, o, none⟩)] w fun e w' => e = .returned (.agg #[.slice (some ⟨kg, 0, none⟩) n kc, .slice (some ⟨B, o + 9, none⟩) n 40]) ∧ Below w.heap.size w w' := by
  have hni : (n : Int) ≤ 40 := by omega
  have HN : Hid (((w.alloc (.cells #[.slice (some ⟨kg, 0, none⟩) n kc, .slice (some ⟨B, o + 9, none⟩) n 40] 43)).drew).heap[w.heap.size]? = some (.cells #[.slice (some ⟨kg, 0, none⟩) n kc, .slice (some ⟨B, o + 9, none⟩) n 40] 43 (0, 0))) := heap_alloc_new _ _
  go_enter Yba.func19, Yba.ntmps19
  go_wp2
  go_region
  go_wp2
  refine bodyPost_ret (results_cell_row rfl _ _ w.heap.size 43 _ (0, 0) _ rfl HN.out Yba.underlying43 rfl (by kernel_rfl)) rfl ?_
  exact ⟨rfl, ((Below.refl _ _).alloc (Nat.le_refl _) _).drew⟩
set_option maxRecDepth 100000 in
set_option maxHeartbeats 800000 in
theorem entries_far (B o : Nat) (kg kc hg hc n : Nat) (w : World) (h2 : w.cell? ⟨B, o + 2, none⟩ = some (.bool false)) (h4 : w.cell? ⟨B, o + 4, none⟩ = some (.slice (some ⟨kg, 0, none⟩) n kc)) (h5 : w.cell? ⟨B, o + 5, none⟩ = some (.slice (some ⟨hg, 0, none⟩) n hc)) (hB : B < w.heap.size) :
    Calls Yba.prog 19 #[.pointer (some ⟨B, o, none⟩)] w fun e w' => e = .returned (.agg #[.slice (some ⟨kg, 0, none⟩) n kc, .slice (some ⟨hg, 0, none⟩) n hc]) ∧ Below w.heap.size w w' := by
  have HN : Hid ((w.alloc (.cells #[.slice (some ⟨kg, 0, none⟩) n kc, .slice (some ⟨hg, 0, none⟩) n hc] 43)).heap[w.heap.size]? = some (.cells #[.slice (some ⟨kg, 0, none⟩) n kc, .slice (some ⟨hg, 0, none⟩) n hc] 43 (0, 0))) := heap_alloc_new _ _
  go_enter Yba.func19, Yba.ntmps19
  go_wp2
  refine bodyPost_ret (results_cell_row rfl _ _ w.heap.size 43 _ (0, 0) _ rfl HN.out Yba.underlying43 rfl (by kernel_rfl)) rfl ?_
  exact ⟨rfl, (Below.refl _ _).alloc (Nat.le_refl _) _⟩

/-- a bucket in memory -/
structure BucketAt (w : World) (B o : Nat) (own : Bool) (kg kc hg hc : Nat) (ks : List (List Nat)) : Prop where
  c2 : w.cell? ⟨B, o + 2, none⟩ = some (.bool own)
  c4 : w.cell? ⟨B, o + 4, none⟩ = some (.slice (some ⟨kg, 0, none⟩) ks.length kc)
  c5 : w.cell? ⟨B, o + 5, none⟩ = some (.slice (some ⟨hg, 0, none⟩) ks.length hc)
  lst : ListAt w kg (bif own then B else hg) (bif own then o + 9 else 0) ks
  few : own = true → ks.length ≤ 20
  many : ks.length ≤ 65536
  cap : ks.length ≤ hc ∧ hc ≤ 100000
  lt : B < w.heap.size
theorem BucketAt.below {w w' : World} {B o kg kc hg hc N : Nat} {own : Bool} {ks : List (List Nat)} (h : BucketAt w B o own kg kc hg hc ks) (hb : Below N w w') (hN : w.heap.size ≤ N) : BucketAt w' B o own kg kc hg hc ks :=
  ⟨by rw [hb.cell (p := ⟨B, o + 2, none⟩) (Nat.lt_of_lt_of_le h.lt hN)]; exact h.c2, by rw [hb.cell (p := ⟨B, o + 4, none⟩) (Nat.lt_of_lt_of_le h.lt hN)]; exact h.c4, by rw [hb.cell (p := ⟨B, o + 5, none⟩) (Nat.lt_of_lt_of_le h.lt hN)]; exact h.c5, h.lst.below hb hN, h.few, h.many, h.cap, Nat.lt_of_lt_of_le h.lt hb.size⟩

theorem entries_any {w : World} {B o kg kc hg hc : Nat} {own : Bool} {ks : List (List Nat)} (h : BucketAt w B o own kg kc hg hc ks) :
    Calls Yba.prog 19 #[.pointer (some ⟨B, o, none⟩)] w fun e w' => e = .returned (.agg #[.slice (some ⟨kg, 0, none⟩) ks.length kc, .slice (some ⟨bif own then B else hg, bif own then o + 9 else 0, none⟩) ks.length (bif own then 40 else hc)]) ∧ Below w.heap.size w w' := by
  cases own with
  | true => exact entries_own B o kg kc ks.length w h.c2 h.c4 (h.few rfl) h.lt
  | false => exact entries_far B o kg kc hg hc ks.length w h.c2 h.c4 h.c5 h.lt

theorem first_some (ks : List (List Nat)) (k : List Nat) : ∃ r, FirstAt ks k r := by
  have h : ∀ m, m ≤ ks.length → (∃ i, i < m ∧ ks.getD i [] = k ∧ ∀ j, j < i → ks.getD j [] ≠ k) ∨ ∀ j, j < m → ks.getD j [] ≠ k := by
    intro m
    induction m with
    | zero => intro _; exact Or.inr fun j hj => absurd hj (by omega)
    | succ m ih =>
      intro hm
      rcases ih (by omega) with ⟨i, h1, h2, h3⟩ | h1
      · exact Or.inl ⟨i, by omega, h2, h3⟩
      · by_cases e : ks.getD m [] = k
        · exact Or.inl ⟨m, by omega, e, h1⟩
        · refine Or.inr fun j hj => ?_
          by_cases ej : j = m
          · rw [ej]; exact e
          · exact h1 j (by omega)
  rcases h ks.length (Nat.le_refl _) with ⟨i, h1, h2, h3⟩ | h1
  · exact ⟨_, Or.inl ⟨i, h1, rfl, h2, h3⟩⟩
  · exact ⟨_, Or.inr ⟨rfl, h1⟩⟩
theorem FirstAt.unique {ks : List (List Nat)} {k : List Nat} {r s : Int} (h : FirstAt ks k r) (g : FirstAt ks k s) : r = s := by
  rcases h with ⟨i, h1, rfl, h2, h3⟩ | ⟨rfl, h1⟩ <;> rcases g with ⟨j, g1, rfl, g2, g3⟩ | ⟨rfl, g1⟩
  · rcases Nat.lt_trichotomy i j with e | e | e
    · exact absurd h2 (g3 i e)
    · rw [e]
    · exact absurd g2 (h3 j e)
  · exact absurd h2 (g1 i h1)
  · exact absurd g2 (h1 j g1)
  · rfl

/-- the table as locate reads it -/
structure LookAt (w : World) (tb B O d c : Nat) (sf : List Nat) : Prop where
  slf : KeyAt w tb 0 sf
  c34 : w.cell? ⟨tb, 34, none⟩ = some (.slice (some ⟨B, O, none⟩) d c)
  d2 : d ≤ 257
  near : d ≤ 24 → B = tb ∧ O = 53
  lt : tb < w.heap.size
theorem LookAt.below {w w' : World} {tb B O d c N : Nat} {sf : List Nat} (h : LookAt w tb B O d c sf) (hb : Below N w w') (hN : w.heap.size ≤ N) : LookAt w' tb B O d c sf :=
  ⟨h.slf.below hb (Nat.lt_of_lt_of_le h.lt hN), by rw [hb.cell (p := ⟨tb, 34, none⟩) (Nat.lt_of_lt_of_le h.lt hN)]; exact h.c34, h.d2, h.near, Nat.lt_of_lt_of_le h.lt hb.size⟩
theorem bucketAt_any {w : World} {tb B O d c : Nat} {sf : List Nat} (h : LookAt w tb B O d c sf) (b : Nat) (hb : b < d) :
    Calls Yba.prog 18 #[.pointer (some ⟨tb, 0, none⟩), .int .i64 (b : Int)] w fun e w' => e = .returned (.pointer (some ⟨B, O + b * 49, none⟩)) ∧ w' = w := by
  by_cases hd : d ≤ 24
  · obtain ⟨h1, h2⟩ := h.near hd
    rw [h1, h2]
    exact bucketAt_near tb B O b d c w h.c34 hd hb
  · exact bucketAt_far tb B O b d c w h.c34 (by omega) h.d2 hb

set_option maxRecDepth 100000 in
set_option maxHeartbeats 3000000 in
theorem locate_any (tb B O d c : Nat) (sf k : List Nat) (own : Bool) (kg kc hg hc : Nat) (ks : List (List Nat)) (hs : IsKey sf) (hk : IsKey k) (w : World) (hT : LookAt w tb B O d c sf)
    (hB : cplN sf k < d → BucketAt w B (O + cplN sf k * 49) own kg kc hg hc ks) :
    Calls Yba.prog 15 #[.pointer (some ⟨tb, 0, none⟩), keyV k] w fun e w' => ∃ r : Int, e = .returned (.tuple #[.int .i64 ((cplN sf k : Nat) : Int), .int .i64 r]) ∧ ((d ≤ cplN sf k ∧ r = -1) ∨ (cplN sf k < d ∧ FirstAt ks k r)) ∧ Below w.heap.size w w' := by
  obtain ⟨w1, hw1⟩ : ∃ w1, w1 = w.alloc (.cells (kcells k) 29) := ⟨_, rfl⟩
  have hb1 : Below w.heap.size w w1 := by rw [hw1]; exact (Below.refl _ _).alloc (Nat.le_refl _) _
  have hs1 : w1.heap.size = w.heap.size + 1 := by rw [hw1]; simp
  have hk1 : KeyAt w1 w.heap.size 0 k := by rw [hw1]; exact KeyAt.new w k 29
  have HT1 : Hid (∀ wr, Below (w.heap.size + 1) w1 wr → LookAt wr tb B O d c sf ∧ KeyAt wr w.heap.size 0 k ∧ (cplN sf k < d → BucketAt wr B (O + cplN sf k * 49) own kg kc hg hc ks) ∧ Below w.heap.size w wr ∧ w.heap.size + 1 ≤ wr.heap.size) := by
    intro wr hb
    have hbb := hb1.trans (hb.mono (show w.heap.size ≤ w.heap.size + 1 by omega))
    exact ⟨hT.below hbb (Nat.le_refl _), hk1.below hb (by omega), fun h => (hB h).below hbb (Nat.le_refl _), hbb, by have := hb.size; omega⟩
  have HK : Hid (IsKey sf ∧ IsKey k) := ⟨hs, hk⟩
  have HZs : Hid (∀ w', (∃ z : Past (w.heap.size + 1) w1, w' = z.val) → KeyAt w' tb 0 sf) := by
    rintro _ ⟨z, rfl⟩; exact (HT1.out z.val z.bel).1.slf
  have HZk : Hid (∀ w', (∃ z : Past (w.heap.size + 1) w1, w' = z.val) → KeyAt w' w.heap.size 0 k) := by
    rintro _ ⟨z, rfl⟩; exact (HT1.out z.val z.bel).2.1
  have hcpl : ∀ z : Past (w.heap.size + 1) w1, Calls Yba.prog 17 #[.agg (kcells sf), .agg (kcells k)] z.val fun e w' => e = .returned (.int .i64 ((cplN sf k : Nat) : Int)) ∧ ∃ z' : Past (w.heap.size + 1) w1, w' = z'.val := by
    intro z
    refine (cpl_any sf k hs hk z.val).mono ?_
    rintro e w' ⟨rfl, hb⟩
    exact ⟨rfl, ⟨_, z.bel.trans (hb.mono (by have := z.bel.size; omega))⟩, rfl⟩
  clear hb1 hs1 hk1 hT hB hs hk
  have hnz := Past.some (w.heap.size + 1) w1
  unfold keyV
  go_enter Yba.func15, Yba.ntmps15
  go_wp2
  rw [← hw1]
  clear hw1
  refine past_world (w.heap.size + 1) (by kernel_rfl) (by kernel_rfl) ?_
  repeat (first | (go_big_quiet_want; refine quiet_load_key _ rfl tb 0 rfl sf HZs.out HK.out.1 ?_; go_simp; go_big_quiet_on) | (go_big_quiet_want; refine quiet_load_key _ rfl w.heap.size 0 rfl k HZk.out HK.out.2 ?_; go_simp; go_big_quiet_on) | go_big_quiet_step (exact hcpl _))
  refine wpQuiet_nil ?_
  rintro _ ⟨z, rfl⟩
  obtain ⟨wz, hbz⟩ := z
  have HZ : Hid (Below (w.heap.size + 1) w1 wz) := hbz
  have c34 := (HT1.out wz hbz).1.c34
  have hd257 := (HT1.out wz hbz).1.d2
  show Exit.then _ _ Exit.normal _ wz
  have hcl : cplN sf k ≤ 256 := by have := cplN_le sf k; rw [HK.out.1.len] at this; omega
  clear hbz hcpl hnz HZs HZk
  by_cases hb : d ≤ cplN sf k
  · have HD : Hid (d ≤ cplN sf k) := hb
    generalize hb0 : cplN sf k = b0 at *
    have HB0 : Hid (cplN sf k = b0) := hb0
    clear hb0
    go_wp2
    go_ret2
    rw [HB0.out]
    exact ⟨_, rfl, Or.inl ⟨HD.out, rfl⟩, (HT1.out wz HZ.out).2.2.2.1⟩
  · obtain ⟨r0, hr0⟩ := first_some ks k
    have HD : Hid (cplN sf k < d ∧ FirstAt ks k r0) := ⟨by omega, hr0⟩
    have hblt : cplN sf k < d := by omega
    have hP : ∀ z : Past (w.heap.size + 1) wz, Below (w.heap.size + 1) w1 z.val := fun z => HZ.out.trans z.bel
    have hbu : ∀ z : Past (w.heap.size + 1) wz, Calls Yba.prog 18 #[.pointer (some ⟨tb, 0, none⟩), .int .i64 ((cplN sf k : Nat) : Int)] z.val fun e w' => e = .returned (.pointer (some ⟨B, O + cplN sf k * 49, none⟩)) ∧ ∃ z' : Past (w.heap.size + 1) wz, w' = z'.val := by
      intro z
      refine (bucketAt_any (HT1.out z.val (hP z)).1 _ HD.out.1).mono ?_
      rintro e w' ⟨rfl, rfl⟩
      exact ⟨rfl, z, rfl⟩
    have hen : ∀ z : Past (w.heap.size + 1) wz, Calls Yba.prog 19 #[.pointer (some ⟨B, O + cplN sf k * 49, none⟩)] z.val fun e w' => e = .returned (.agg #[.slice (some ⟨kg, 0, none⟩) ks.length kc, .slice (some ⟨bif own then B else hg, bif own then O + cplN sf k * 49 + 9 else 0, none⟩) ks.length (bif own then 40 else hc)]) ∧ ∃ z' : Past (w.heap.size + 1) wz, w' = z'.val := by
      intro z
      refine (entries_any ((HT1.out z.val (hP z)).2.2.1 HD.out.1)).mono ?_
      rintro e w' ⟨rfl, hb⟩
      exact ⟨rfl, ⟨_, z.bel.trans (hb.mono (HT1.out z.val (hP z)).2.2.2.2)⟩, rfl⟩
    have hin : ∀ z : Past (w.heap.size + 1) wz, Calls Yba.prog 20 #[.agg #[.slice (some ⟨kg, 0, none⟩) ks.length kc, .slice (some ⟨bif own then B else hg, bif own then O + cplN sf k * 49 + 9 else 0, none⟩) ks.length (bif own then 40 else hc)], .agg (kcells k)] z.val fun e w' => e = .returned (.int .i64 r0) ∧ ∃ z' : Past (w.heap.size + 1) wz, w' = z'.val := by
      intro z
      have hbk := (HT1.out z.val (hP z)).2.2.1 HD.out.1
      refine (index_any kg kc (bif own then B else hg) (bif own then O + cplN sf k * 49 + 9 else 0) (bif own then 40 else hc) ks.length ks k HK.out.2 rfl hbk.many
        (by cases own with
          | true => have := hbk.few rfl; simp; omega
          | false => simp; exact hbk.cap.1)
        (by cases own with
          | true => simp
          | false => simp; exact hbk.cap.2) z.val hbk.lst).mono ?_
      rintro e w' ⟨r, rfl, hf, hb⟩
      rw [hf.unique HD.out.2]
      exact ⟨rfl, ⟨_, z.bel.trans (hb.mono (HT1.out z.val (hP z)).2.2.2.2)⟩, rfl⟩
    have HZk : Hid (∀ w', (∃ z : Past (w.heap.size + 1) wz, w' = z.val) → KeyAt w' w.heap.size 0 k) := by
      rintro _ ⟨z, rfl⟩; exact (HT1.out z.val (hP z)).2.1
    have hnz := Past.some (w.heap.size + 1) wz
    clear hr0 hb
    have HT2 : Hid (∀ z : Past (w.heap.size + 1) wz, Below w.heap.size w z.val) := fun z => (HT1.out z.val (hP z)).2.2.2.1
    clear hP HT1
    generalize hb0 : cplN sf k = b0 at *
    have HB0 : Hid (cplN sf k = b0) := hb0
    clear hb0
    generalize (bif own then B else hg) = hg' at *
    generalize (bif own then O + b0 * 49 + 9 else 0) = ho' at *
    generalize (bif own then 40 else hc) = hc' at *
    go_wp2
    refine past_world (w.heap.size + 1) (by kernel_rfl) (by kernel_rfl) ?_
    repeat (first | (go_big_quiet_want; refine quiet_load_key _ rfl w.heap.size 0 rfl k HZk.out HK.out.2 ?_; go_simp; go_big_quiet_on) | go_big_quiet_step (first | (with_reducible exact hbu _) | (with_reducible exact hen _) | (with_reducible exact hin _)))
    refine wpQuiet_nil ?_
    rintro _ ⟨z, rfl⟩
    go_wp2
    go_ret2
    rw [HB0.out]
    exact ⟨_, rfl, Or.inr HD.out, HT2.out z⟩
end Go.Proofs.Ybulkegxe
