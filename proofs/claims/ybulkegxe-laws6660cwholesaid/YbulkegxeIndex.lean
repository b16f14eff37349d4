import Derived.Test.YbulkegxeTime
import Derived.Deep.MidRow
import Derived.Deep.LoopGhost
namespace Go.Proofs.Ybulkegxe
open Go.RowKit
set_option linter.unusedVariables false

/-- a key in memory -/
def KeyAt (w : World) (g o : Nat) (x : List Nat) : Prop := w.rangeAt g o (kcells x).toList
theorem KeyAt.below {w w' : World} {g o N : Nat} {x : List Nat} (h : KeyAt w g o x) (hb : Below N w w') (hg : g < N) : KeyAt w' g o x := by
  intro j v hj
  rw [hb.cell (p := ⟨g, o + j, none⟩) hg]; exact h j v hj
theorem Yba.size29 : (Yba.prog.info? 29).map (·.size) = some 32 := by kernel_rfl
theorem load_key {w : World} {g o : Nat} {x : List Nat} (h : KeyAt w g o x) (hx : IsKey x) : (Instr.loadAt 29 (.pointer (some ⟨g, o, none⟩))).run Yba.prog w = .ok (keyV x) w := by
  have := run_loadAt_mid (P := Yba.prog) w g o 29 (kcells x).toList _ h Yba.underlying29 rfl (by rw [Yba.size29, Array.length_toList, kcells_size, hx.len])
  simpa [keyV] using this
theorem wpList_load_key {ops : Array Oper} {rest : List Oper} {o : Oper} {a : Act} {w : World} {Q : Exit → Act → World → Prop} (hgd : o.guard = none) (x : Operand) (ho : o.op = .load 29 x)
    (g off : Nat) (hx : a.eval x = .pointer (some ⟨g, off, none⟩)) (k : List Nat) (hK : KeyAt w g off k) (hk : IsKey k)
    (h : wpList Yba.prog ops Q rest (a.put o.dst (.agg (kcells k))) w) : wpList Yba.prog ops Q (o :: rest) a w := by
  refine wpList_load_mid hgd 29 x ho g off hx (kcells k).toList _ hK Yba.underlying29 rfl (by rw [Yba.size29, Array.length_toList, kcells_size, hk.len]) ?_
  simpa using h
theorem quiet_load_key {C : World → Prop} {K : Act → Prop} {a : Act} {o : Oper} (x : Operand) (ho : o.op = .load 29 x) (g off : Nat) (hx : a.eval x = .pointer (some ⟨g, off, none⟩)) (k : List Nat) (hC : ∀ w, C w → KeyAt w g off k) (hk : IsKey k)
    (hK : K (a.put o.dst (.agg (kcells k)))) : o.quiet Yba.prog a C K := by
  refine ⟨.agg (kcells k), fun w hw => ?_, hK⟩
  have h := load_key (hC w hw) hk
  unfold Oper.quietAt execOp
  simp only [ho, hx, Sem.run_bind, h]
  exact ⟨rfl, rfl⟩
theorem KeyAt.new (w : World) (x : List Nat) (t : TypeId) : KeyAt (w.alloc (.cells (kcells x) t)) w.heap.size 0 x := by
  intro j v hj
  rw [Nat.zero_add]
  simp only [World.cell?, heap_alloc_new]
  simpa using hj

/-- the first place of a key in a list -/
def FirstAt (ks : List (List Nat)) (k : List Nat) (r : Int) : Prop :=
  (∃ i : Nat, i < ks.length ∧ r = (i : Int) ∧ ks.getD i [] = k ∧ ∀ j, j < i → ks.getD j [] ≠ k) ∨ (r = -1 ∧ ∀ j, j < ks.length → ks.getD j [] ≠ k)

/-- a list of keys and heads in memory -/
structure ListAt (w : World) (kg hg ho : Nat) (ks : List (List Nat)) : Prop where
  keys : ∀ i, i < ks.length → KeyAt w kg (i * 32) (ks.getD i [])
  heads : ∀ i, i < ks.length → w.cell? ⟨hg, ho + i, none⟩ = some (.int .u64 ((beN ((ks.getD i []).take 8) : Nat) : Int))
  isKey : ∀ i, i < ks.length → IsKey (ks.getD i [])
  kglt : kg < w.heap.size
  hglt : hg < w.heap.size
theorem ListAt.below {w w' : World} {kg hg ho N : Nat} {ks : List (List Nat)} (h : ListAt w kg hg ho ks) (hb : Below N w w') (hN : w.heap.size ≤ N) : ListAt w' kg hg ho ks :=
  ⟨fun i hi => (h.keys i hi).below hb (Nat.lt_of_lt_of_le h.kglt hN), fun i hi => by rw [hb.cell (p := ⟨hg, ho + i, none⟩) (Nat.lt_of_lt_of_le h.hglt hN)]; exact h.heads i hi, h.isKey, Nat.lt_of_lt_of_le h.kglt hb.size, Nat.lt_of_lt_of_le h.hglt hb.size⟩

set_option maxRecDepth 100000 in
set_option maxHeartbeats 3000000 in
theorem index_any (kg kc hg ho hc n : Nat) (ks : List (List Nat)) (k : List Nat) (hk : IsKey k) (hl : ks.length = n) (hn : n ≤ 65536) (hcap : n ≤ hc) (hcm : hc ≤ 100000) (w : World) (hL : ListAt w kg hg ho ks) :
    Calls Yba.prog 20 #[.agg #[.slice (some ⟨kg, 0, none⟩) n kc, .slice (some ⟨hg, ho, none⟩) n hc], keyV k] w fun e w' => ∃ r : Int, e = .returned (.int .i64 r) ∧ FirstAt ks k r ∧ Below w.heap.size w w' := by
  obtain ⟨w2, hw2⟩ : ∃ w2, w2 = (w.alloc (.cells #[.slice (some ⟨kg, 0, none⟩) n kc, .slice (some ⟨hg, ho, none⟩) n hc] 43)).alloc (.cells (kcells k) 29) := ⟨_, rfl⟩
  have hB2 : Below w.heap.size w w2 := by rw [hw2]; exact ((Below.refl _ _).alloc (Nat.le_refl _) _).alloc (by simp) _
  have hs2 : w2.heap.size = w.heap.size + 2 := by rw [hw2]; simp
  have hkey2 : KeyAt w2 (w.heap.size + 1) 0 k := by
    rw [hw2]
    have := KeyAt.new (w.alloc (.cells #[.slice (some ⟨kg, 0, none⟩) n kc, .slice (some ⟨hg, ho, none⟩) n hc] 43)) k 29
    simpa using this
  have hc0 : w2.cell? ⟨w.heap.size, 0, none⟩ = some (.slice (some ⟨kg, 0, none⟩) n kc) := by
    rw [hw2, World.cell?_of_block (Below.heap_alloc _ _ _ (by simp))]; simp only [World.cell?, heap_alloc_new]; rfl
  have hc1 : w2.cell? ⟨w.heap.size, 1, none⟩ = some (.slice (some ⟨hg, ho, none⟩) n hc) := by
    rw [hw2, World.cell?_of_block (Below.heap_alloc _ _ _ (by simp))]; simp only [World.cell?, heap_alloc_new]; rfl
  have hhd := head_any k hk w2
  have H2 : Hid (Below w.heap.size w w2 ∧ w2.heap.size = w.heap.size + 2 ∧ KeyAt w2 (w.heap.size + 1) 0 k ∧ w2.cell? ⟨w.heap.size, 0, none⟩ = some (.slice (some ⟨kg, 0, none⟩) n kc) ∧ w2.cell? ⟨w.heap.size, 1, none⟩ = some (.slice (some ⟨hg, ho, none⟩) n hc) ∧ ListAt w2 kg hg ho ks) := ⟨hB2, hs2, hkey2, hc0, hc1, hL.below hB2 (Nat.le_refl _)⟩
  have HK : Hid (IsKey k ∧ ks.length = n) := ⟨hk, hl⟩
  rw [hw2] at hhd hkey2
  have HK2 : Hid (KeyAt ((w.alloc (.cells #[.slice (some ⟨kg, 0, none⟩) n kc, .slice (some ⟨hg, ho, none⟩) n hc] 43)).alloc (.cells (kcells k) 29)) (w.heap.size + 1) 0 k) := hkey2
  clear hB2 hs2 hkey2 hc0 hc1 hL hk hl
  unfold keyV at hhd ⊢
  go_enter Yba.func20, Yba.ntmps20
  go_upto_block 0 with (first | (refine wpList_load_key rfl _ rfl _ _ rfl k HK2.out HK.out.1 ?_) | (go_at_call 23; refine hhd.mono ?_; rintro e w3 ⟨rfl, hb3⟩))
  rw [← hw2] at hb3
  have H3 : Hid (Below w2.heap.size w2 w3) := hb3
  clear hhd HK2 hw2 hb3
  have HF : Hid (∀ wr, Below (w.heap.size + 2) w2 wr → KeyAt wr (w.heap.size + 1) 0 k ∧ wr.cell? ⟨w.heap.size, 0, none⟩ = some (.slice (some ⟨kg, 0, none⟩) n kc) ∧ wr.cell? ⟨w.heap.size, 1, none⟩ = some (.slice (some ⟨hg, ho, none⟩) n hc) ∧ ListAt wr kg hg ho ks) := by
    intro wr hb
    obtain ⟨q1, q2, q3, q4, q5, q6⟩ := H2.out
    exact ⟨q3.below hb (by omega), by rw [hb.cell (p := ⟨w.heap.size, 0, none⟩) (by simp)]; exact q4, by rw [hb.cell (p := ⟨w.heap.size, 1, none⟩) (by simp)]; exact q5, q6.below hb (by omega)⟩
  have HB3 : Hid (Below (w.heap.size + 2) w2 w3) := H3.out.mono (by have := H2.out.2.1; omega)
  have c1 := (HF.out w3 HB3.out).2.2.1
  obtain ⟨hd, hhd⟩ : ∃ hd : Nat → Nat, hd = fun i => beN ((ks.getD i []).take 8) := ⟨_, rfl⟩
  obtain ⟨h, hh⟩ : ∃ h : Nat, h = beN (k.take 8) := ⟨_, rfl⟩
  have HHD : Hid (∀ i, i < n → w3.cell? ⟨hg, ho + i, none⟩ = some (.int .u64 (hd i : Int))) := by
    intro i hi
    rw [hhd]
    exact (HF.out w3 HB3.out).2.2.2.heads i (by rw [HK.out.2]; exact hi)
  have HNE : Hid (∀ i, hd i ≠ h → ks.getD i [] ≠ k) := by
    intro i hne he
    exact hne (by rw [hhd, hh, ← he])
  have HHH : Hid (hd = (fun i => beN ((ks.getD i []).take 8)) ∧ h = beN (k.take 8)) := ⟨hhd, hh⟩
  rw [← hh]
  clear hhd hh
  go_cut [6, 7] from 10 to 49 (fun i _ wx => (∃ m : Nat, i = .int .i64 (m : Int) ∧ m ≤ n ∧ ∀ j, j < m → hd j ≠ h) ∧ w3 = wx)
  case first => as_aux_lemma =>
    go_wp2_with fail
    go_loopg [6, 7] n (fun g i _ wr => ∃ m : Nat, i = .int .i64 (m : Int) ∧ m ≤ n ∧ n - m ≤ g ∧ (∀ j, j < m → hd j ≠ h) ∧ w3 = wr)
    case atStart => exact ⟨0, rfl, Nat.zero_le _, Nat.le_refl _, fun j hj => absurd hj (by omega), rfl⟩
    case round =>
      obtain ⟨m, rfl, hm, hgh, hpre, rfl⟩ := hrel
      have HP : Hid (∀ j, j < m → hd j ≠ h) := hpre
      clear hpre
      by_cases hlt : m + 4 ≤ n
      · have d0 := HHD.out m (by omega)
        have d1 := HHD.out (m + 1) (by omega)
        have d2 := HHD.out (m + 2) (by omega)
        have d3 := HHD.out (m + 3) (by omega)
        rw [← Nat.add_assoc] at d1 d2 d3
        have hcm2 : ¬ (hc = m) := by omega
        have HQ : Hid (hd m ≠ h → hd (m + 1) ≠ h → hd (m + 2) ≠ h → hd (m + 3) ≠ h → ∀ j, j < m + 4 → hd j ≠ h) := by
          intro e0 e1 e2 e3 j hj
          by_cases hjm : j < m
          · exact HP.out j hjm
          · have : j = m ∨ j = m + 1 ∨ j = m + 2 ∨ j = m + 3 := by omega
            rcases this with rfl | rfl | rfl | rfl <;> assumption
        generalize hd m = a0 at *
        generalize hd (m + 1) = a1 at *
        generalize hd (m + 2) = a2 at *
        generalize hd (m + 3) = a3 at *
        by_cases h0 : a0 = h
        · subst h0
          go_wp2
          go_meet
          case rel => exact ⟨⟨m, rfl, hm, HP.out⟩, rfl⟩
        · have q0 := ne_beq h0
          by_cases h1 : a1 = h
          · subst h1
            go_wp2
            go_meet
            case rel => exact ⟨⟨m, rfl, hm, HP.out⟩, rfl⟩
          · have q1 := ne_beq h1
            by_cases h2 : a2 = h
            · subst h2
              go_wp2
              go_meet
              case rel => exact ⟨⟨m, rfl, hm, HP.out⟩, rfl⟩
            · have q2 := ne_beq h2
              by_cases h3 : a3 = h
              · subst h3
                go_wp2
                go_meet
                case rel => exact ⟨⟨m, rfl, hm, HP.out⟩, rfl⟩
              · have q3 := ne_beq h3
                have HQ' : Hid (∀ j, j < m + 4 → hd j ≠ h) := HQ.out h0 h1 h2 h3
                clear HQ h0 h1 h2 h3
                go_wp2
                go_roundg (n - (m + 4))
                case measure => omega
                case rel => exact ⟨m + 4, by go_num, by omega, Nat.le_refl _, HQ'.out, rfl⟩
      · go_wp2
        go_meet
        case rel => exact ⟨⟨m, rfl, hm, HP.out⟩, rfl⟩
  case rest => as_aux_lemma =>
    obtain ⟨⟨m0, rfl, hm0, hpre0⟩, rfl⟩ := hcut
    have HS : Hid (∀ j, j < m0 → ks.getD j [] ≠ k) := fun j hj => HNE.out j (hpre0 j hj)
    clear hpre0 c1 HHD
    go_wp2_with fail
    go_loopg [6] n (fun g i wr => ∃ m : Nat, i = .int .i64 (m : Int) ∧ m ≤ n ∧ n - m ≤ g ∧ (∀ j, j < m → ks.getD j [] ≠ k) ∧ Below (w.heap.size + 2) w2 wr)
    case atStart => exact ⟨m0, rfl, hm0, by omega, HS.out, HB3.out⟩
    case round =>
      obtain ⟨m, rfl, hm, hgh, hpre, hbr⟩ := hrel
      have HP : Hid (∀ j, j < m → ks.getD j [] ≠ k) := hpre
      have HR : Hid (Below (w.heap.size + 2) w2 wr) := hbr
      have c1 := (HF.out wr hbr).2.2.1
      clear hpre hbr
      by_cases hlt : m < n
      · have z1 : ∀ z : Past (w.heap.size + 2) wr, z.val.cell? ⟨w.heap.size, 1, none⟩ = some (.slice (some ⟨hg, ho, none⟩) n hc) := fun z => (HF.out z.val (HR.out.trans z.bel)).2.2.1
        have z0 : ∀ z : Past (w.heap.size + 2) wr, z.val.cell? ⟨w.heap.size, 0, none⟩ = some (.slice (some ⟨kg, 0, none⟩) n kc) := fun z => (HF.out z.val (HR.out.trans z.bel)).2.1
        have zh : ∀ z : Past (w.heap.size + 2) wr, z.val.cell? ⟨hg, ho + m, none⟩ = some (.int .u64 (hd m : Int)) := fun z => by
          rw [HHH.out.1]; exact (HF.out z.val (HR.out.trans z.bel)).2.2.2.heads m (by rw [HK.out.2]; exact hlt)
        obtain ⟨km, hkm⟩ : ∃ km, km = ks.getD m [] := ⟨_, rfl⟩
        have HKm : Hid (IsKey km) := by rw [hkm]; exact (HF.out wr HR.out).2.2.2.isKey m (by rw [HK.out.2]; exact hlt)
        have HZk : Hid (∀ w', (∃ z : Past (w.heap.size + 2) wr, w' = z.val) → KeyAt w' kg (m * 32) km) := by
          rintro _ ⟨z, rfl⟩
          rw [hkm]; exact (HF.out z.val (HR.out.trans z.bel)).2.2.2.keys m (by rw [HK.out.2]; exact hlt)
        have HZ1 : Hid (∀ w', (∃ z : Past (w.heap.size + 2) wr, w' = z.val) → KeyAt w' (w.heap.size + 1) 0 k) := by
          rintro _ ⟨z, rfl⟩
          exact (HF.out z.val (HR.out.trans z.bel)).1
        have hsm : ∀ z : Past (w.heap.size + 2) wr, Calls Yba.prog 24 #[.agg (kcells km), .agg (kcells k)] z.val fun e w' => e = .returned (.bool (decide (km = k))) ∧ ∃ z' : Past (w.heap.size + 2) wr, w' = z'.val := by
          intro z
          refine (same_any km k HKm.out HK.out.1 z.val).mono ?_
          rintro e w' ⟨rfl, hb⟩
          exact ⟨rfl, ⟨_, z.bel.trans (hb.mono (by have := z.bel.size; have := HR.out.size; have := H2.out.2.1; omega))⟩, rfl⟩
        have HKM : Hid (km = ks.getD m []) := hkm
        have HHm : Hid (hd m ≠ h → km ≠ k) := by rw [hkm]; exact HNE.out m
        have HN : Hid (km ≠ k → ∀ j, j < m + 1 → ks.getD j [] ≠ k) := by
          intro hne j hj
          by_cases e : j = m
          · rw [e, ← HKM.out]; exact hne
          · exact HP.out j (by omega)
        clear hkm
        have hnz := Past.some (w.heap.size + 2) wr
        generalize hd m = a0 at *
        by_cases h0 : a0 = h
        · subst h0
          by_cases he : km = k
          · have HE : Hid (km = k) := he
            rw [decide_eq_true he] at hsm
            clear he
            go_wp2
            refine past_world (w.heap.size + 2) (by kernel_rfl) (by kernel_rfl) ?_
            repeat (first | (go_big_quiet_want; refine quiet_load_key _ rfl kg (m * 32) rfl km HZk.out HKm.out ?_; go_simp; go_big_quiet_on) | (go_big_quiet_want; refine quiet_load_key _ rfl (w.heap.size + 1) 0 rfl k HZ1.out HK.out.1 ?_; go_simp; go_big_quiet_on) | go_big_quiet_step (exact hsm _))
            refine wpQuiet_nil ?_
            rintro _ ⟨z, rfl⟩
            go_wp2
            go_ret
            exact ⟨_, rfl, Or.inl ⟨m, by rw [HK.out.2]; exact hlt, rfl, by rw [← HKM.out]; exact HE.out, HP.out⟩, H2.out.1.trans ((HR.out.trans z.bel).mono (by omega))⟩
          · have HN' : Hid (∀ j, j < m + 1 → ks.getD j [] ≠ k) := HN.out he
            rw [decide_eq_false he] at hsm
            clear he HN
            go_wp2
            refine past_world (w.heap.size + 2) (by kernel_rfl) (by kernel_rfl) ?_
            repeat (first | (go_big_quiet_want; refine quiet_load_key _ rfl kg (m * 32) rfl km HZk.out HKm.out ?_; go_simp; go_big_quiet_on) | (go_big_quiet_want; refine quiet_load_key _ rfl (w.heap.size + 1) 0 rfl k HZ1.out HK.out.1 ?_; go_simp; go_big_quiet_on) | go_big_quiet_step (exact hsm _))
            refine wpQuiet_nil ?_
            rintro _ ⟨z, rfl⟩
            go_wp2
            go_roundg (n - (m + 1))
            case measure => omega
            case rel => exact ⟨m + 1, by go_num, by omega, Nat.le_refl _, HN'.out, HR.out.trans z.bel⟩
        · have q0 := ne_beq h0
          have HN' : Hid (∀ j, j < m + 1 → ks.getD j [] ≠ k) := HN.out (HHm.out h0)
          clear h0 HN HHm
          go_wp2
          refine past_world (w.heap.size + 2) (by kernel_rfl) (by kernel_rfl) ?_
          repeat (first | (go_big_quiet_want; refine quiet_load_key _ rfl kg (m * 32) rfl km HZk.out HKm.out ?_; go_simp; go_big_quiet_on) | (go_big_quiet_want; refine quiet_load_key _ rfl (w.heap.size + 1) 0 rfl k HZ1.out HK.out.1 ?_; go_simp; go_big_quiet_on) | go_big_quiet_step (exact hsm _))
          refine wpQuiet_nil ?_
          rintro _ ⟨z, rfl⟩
          go_wp2
          go_roundg (n - (m + 1))
          case measure => omega
          case rel => exact ⟨m + 1, by go_num, by omega, Nat.le_refl _, HN'.out, HR.out.trans z.bel⟩
      · obtain rfl : m = n := by omega
        go_wp2
        go_ret
        exact ⟨_, rfl, Or.inr ⟨rfl, fun j hj => HP.out j (by rw [HK.out.2] at hj; exact hj)⟩, H2.out.1.trans (HR.out.mono (by omega))⟩
end Go.Proofs.Ybulkegxe
