/- LawS6660CWhole: the walk of the law (f4). -/
import Derived.Test.YbulkegxeEqs
import Derived.Deep.LoopGhost
import Derived.Deep.CutBlock
import Derived.Deep.DeepCutAuto
import Derived.Deep.RegionLaw
namespace Go.Proofs.Ybulkegxe
open Go.RowKit
set_option linter.unusedVariables false
set_option linter.unusedSimpArgs false

theorem bits_or_u8_nat (a b : Nat) (ha : a < 256) (hb : b < 256) : bits .or .u8 (a : Int) (b : Int) = ((a ||| b : Nat) : Int) := by
  have hx : a ||| b < 2 ^ 8 := Nat.or_lt_two_pow (by omega) (by omega)
  have h1 : (BitVec.ofInt 8 (a : Int)).toNat = a := by
    rw [BitVec.ofInt_natCast, BitVec.toNat_ofNat]; exact Nat.mod_eq_of_lt (by omega)
  have h2 : (BitVec.ofInt 8 (b : Int)).toNat = b := by
    rw [BitVec.ofInt_natCast, BitVec.toNat_ofNat]; exact Nat.mod_eq_of_lt (by omega)
  show IntKind.u8.wrap ((BitVec.ofInt 8 (a : Int) ||| BitVec.ofInt 8 (b : Int)).toNat : Int) = _
  rw [BitVec.toNat_or, h1, h2]
  simp only [IntKind.wrap, IntKind.bits, IntKind.signed]
  simp
  omega
theorem kcells_set (k : List Nat) (i v : Nat) : kcells (k.set i v) = (kcells k).setIfInBounds i (.int .u8 (v : Int)) := by
  unfold kcells zs
  rw [List.map_set, List.map_set]
  simp
theorem inpC_at (r : Inp) (hk : IsKey r.key) (i : Nat) (v : Value) (h : (#[Value.int .u8 (r.pick : Int), .int .i64 r.added, .int .i64 r.answered, .bool r.never, .int .i64 r.lookups, .int .i64 r.closer, .int .i64 r.failed] : Array Value)[i]? = some v) : (inpC r)[32 + i]? = some v := by
  unfold inpC
  rw [Array.getElem?_append_right (by rw [kcells_size, hk.len]; omega), kcells_size, hk.len, Nat.add_sub_cancel_left]
  exact h

theorem make_full (t e : TypeId) (n sz : Nat) (ht : Yba.prog.underlying t = some (.slice e)) (hi : (Yba.prog.info? e).map (fun i => (i.zero.isSome, i.size, decide (i.bytes ≤ 1000))) = some (true, sz, true)) (hn : n ≤ 65536) :
    ∃ A : Array Value, A.size = n * sz ∧ ∀ w : World, (Instr.makeSlice t (.int .i64 (n : Int)) (.int .i64 (n : Int))).run Yba.prog w = .ok (.slice (some ⟨w.heap.size, 0, none⟩) n n) (w.alloc (.cells A e)) := by
  obtain ⟨i, hi, hzz⟩ := Option.map_eq_some_iff.1 hi
  simp only [Prod.mk.injEq] at hzz
  obtain ⟨hz0, hz1, hz2⟩ := hzz
  obtain ⟨z, hz⟩ := Option.isSome_iff_exists.1 hz0
  have hb := of_decide_eq_true hz2
  have h1 : (i.bytes : Int) * (n : Int) ≤ 1000 * 65536 := by
    have : i.bytes * n ≤ 1000 * 65536 := Nat.mul_le_mul hb hn
    omega
  refine ⟨madeCells z.cells (n * sz), size_madeCells _ _, fun w => ?_⟩
  have := run_make (P := Yba.prog) w t e i z ht hi hz .i64 .i64 n n (by omega) (by omega) (by omega) (by omega)
  rw [this, hz1, Int.toNat_natCast]
theorem Yba.zero22 : (Yba.prog.info? 22).map (fun i => (i.zero.isSome, i.size, i.bytes)) = some (true, 1, 8) := by kernel_rfl
theorem Yba.zero48 : (Yba.prog.info? 48).map (fun i => (i.zero.isSome, i.size, decide (i.bytes ≤ 1000))) = some (true, 49, true) := by kernel_rfl

theorem Full.grow2 {w W W2 : World} {sf k : List Nat} {n : Nat} {L : List Ent} {own lv : Bool} {G : Geo} {m c : Nat} {A8 A32 A1 : Array Value} {t8 t32 t1 : TypeId} (h : Full w W sf k n L own lv G m [] [] [] []) (hm : m < G.d) (hsz : W.heap.size = G.N + 3 * m) (hc : (inB m L).length = c) (h8 : A8.size = c * 8) (h32 : A32.size = c * 32) (h1 : A1.size = c * 1)
    (hW2 : W2 = (((((W.setCell ⟨G.B, G.O + m * 49 + 2, none⟩ (.bool own)).setCell ⟨G.B, G.O + m * 49 + 3, none⟩ (.slice (some ⟨W.heap.size, 0, none⟩) 0 c)).setCell ⟨G.B, G.O + m * 49 + 4, none⟩ (.slice (some ⟨W.heap.size + 1, 0, none⟩) 0 c)).alloc (.cells A8 t8)).alloc (.cells A32 t32))) :
    Full w ((W2.setCell ⟨G.B, G.O + m * 49 + 5, none⟩ (.slice (some ⟨W2.heap.size, 0, none⟩) 0 c)).alloc (.cells A1 t1)) sf k n L own lv G (m + 1) [] [] [] [] ∧ ((W2.setCell ⟨G.B, G.O + m * 49 + 5, none⟩ (.slice (some ⟨W2.heap.size, 0, none⟩) 0 c)).alloc (.cells A1 t1)).heap.size = G.N + 3 * (m + 1) := by
  have hB : G.B < W.heap.size := by have := h.tab.lt; omega
  have hs2 : W2.heap.size = W.heap.size + 2 := by rw [hW2]; simp [World.setCell]
  have hg := h.grow (t8 := t8) (t32 := t32) (t1 := t1) hm hsz hc h8 h32 h1 rfl
  have e : ((((((W.setCell ⟨G.B, G.O + m * 49 + 2, none⟩ (.bool own)).alloc (.cells A8 t8)).setCell ⟨G.B, G.O + m * 49 + 3, none⟩ (.slice (some ⟨W.heap.size, 0, none⟩) 0 c)).alloc (.cells A32 t32)).setCell ⟨G.B, G.O + m * 49 + 4, none⟩ (.slice (some ⟨W.heap.size + 1, 0, none⟩) 0 c)).alloc (.cells A1 t1)).setCell ⟨G.B, G.O + m * 49 + 5, none⟩ (.slice (some ⟨W.heap.size + 2, 0, none⟩) 0 c) = (W2.setCell ⟨G.B, G.O + m * 49 + 5, none⟩ (.slice (some ⟨W2.heap.size, 0, none⟩) 0 c)).alloc (.cells A1 t1) := by
    rw [hs2, hW2]
    repeat rw [World.setCell_alloc_past _ _ _ _ (by simp [World.setCell]; omega)]
  rw [e] at hg
  exact ⟨hg.1, by rw [hg.2, hsz]; omega⟩

theorem below_drewN (W : World) (n N : Nat) : Below N W (W.drewN n) := ⟨rfl, rfl, rfl, Nat.le_refl _, fun _ _ => rfl⟩

set_option maxRecDepth 100000 in
set_option maxHeartbeats 40000000 in
theorem walkC (sf k : List Nat) (hs : IsKey sf) (hk : IsKey k) (ra : Option Addr) (rl rc : Nat) (rs : List Inp) (ep : Int) (own : Bool) (w : World) (hrl : rl ≤ 65536) (hlen : rs.length = rl) (hep1 : -9223372036854775808 ≤ ep) (hep2 : ep ≤ 9223372036854775807) (hgood : ∀ (i : Nat) (r : Inp), rs[i]? = some r → InpOk r)
    (hrecs : rl = 0 ∨ ∃ b off, ra = some ⟨b, off, none⟩ ∧ b < w.heap.size ∧ ∀ (i : Nat) (r : Inp), rs[i]? = some r → InpAt w b (off + i * 39) r) :
    Calls Yba.prog 4 #[keyV sf, keyV k, .slice ra rl rc, .int .i64 ep, .bool own] w fun e w' => e = .returned (.bool true) ∧ Below w.heap.size w w' := by
  have HK : Hid (IsKey sf ∧ IsKey k) := ⟨hs, hk⟩
  have hkk : KeyAt ((w.alloc (.cells (kcells sf) 28)).alloc (.cells (kcells k) 28)) (w.heap.size + 1) 0 k := by
    have := KeyAt.new (w.alloc (.cells (kcells sf) 28)) k 28
    simpa using this
  have HKK := hkk
  have HKK' : Hid (KeyAt ((w.alloc (.cells (kcells sf) 28)).alloc (.cells (kcells k) 28)) (w.heap.size + 1) 0 k) := hkk
  clear hkk HKK hs hk
  unfold keyV
  go_enter Yba.func4, Yba.ntmps4
  obtain ⟨A3, hA3, hm35⟩ := make_some 35 29 rl 32 32 Yba.underlying35 Yba.zero29 (by omega) hrl
  obtain ⟨A4, hA4, hm56⟩ := make_some 56 3 rl 1 8 Yba.underlying56 Yba.zero3 (by omega) hrl
  obtain ⟨A6, hA6, hm41⟩ := make_some 41 64 rl 8 56 Yba.underlying41 Yba.zero64 (by omega) hrl
  have HA3 := hide (And.intro hA3 (And.intro hA4 hA6))
  clear hA3 hA4 hA6
  go_upto_block 0 with (first | (with_reducible refine wpList_load_k28 rfl _ rfl (w.heap.size + 1) 0 (by kernel_rfl) k HKK'.out HK.out.2 ?_) | (with_reducible refine wpList_store_last rfl 29 _ _ rfl (w.heap.size + 1 + 1) _ (kcells k) (by kernel_rfl) (by simp) (by kernel_rfl) 32 Yba.size29 (by rw [kcells_size, HK.out.2.len]) (by kernel_rfl) (kcells_one k) ?_) | (with_reducible refine wpList_alloc57 rfl rfl ?_))
  obtain ⟨wA, hwA⟩ : ∃ wA, wA = (((((((w.alloc (.cells (kcells sf) 28)).alloc (.cells (kcells k) 28)).alloc (.cells (kcells k) 29)).alloc (.cells A3 29)).alloc (.cells A4 3)).alloc (.cells A4 3)).alloc (.cells A6 64)).alloc (.cells zero257 57) := ⟨_, rfl⟩
  have HA := hide (lay1_start w sf k rl wA A3 A4 A4 A6 HA3.out.1 HA3.out.2.1 HA3.out.2.1 HA3.out.2.2 hwA)
  rw [← hwA, show w.heap.size + 1 + 1 + 1 + 1 + 1 + 1 + 1 = w.heap.size + 7 from rfl, show w.heap.size + 1 + 1 = w.heap.size + 2 from rfl]
  have HI : Hid (rs.length = rl ∧ (∀ (i : Nat) (r : Inp), rs[i]? = some r → InpOk r) ∧ (rl = 0 ∨ ∃ b off, ra = some ⟨b, off, none⟩ ∧ b < w.heap.size ∧ ∀ (i : Nat) (r : Inp), rs[i]? = some r → InpAt w b (off + i * 39) r)) := ⟨hlen, hgood, hrecs⟩
  clear hwA hm35 hm56 hm41 HKK' hlen hgood hrecs
  go_cut [13, 14, 15, 16, 18, 19, 20, 21, 22, 23, 24] from 56 to 139 (fun ks bs ps rr dp _ _ _ _ _ _ wx => ∃ L : List Ent, L = runE sf k own rs rl ∧ L.length ≤ rl ∧ WF sf k own L ∧ depthE L ≤ 257 ∧ ks = .slice (some ⟨w.heap.size + 3, 0, none⟩) L.length rl ∧ bs = .slice (some ⟨w.heap.size + 4, 0, none⟩) L.length rl ∧ ps = .slice (some ⟨w.heap.size + 5, 0, none⟩) L.length rl ∧ rr = .slice (some ⟨w.heap.size + 6, 0, none⟩) L.length rl ∧ dp = .int .i64 (depthE L : Int) ∧ Lay1 w wx sf k rl L L L L L)
  case first => as_aux_lemma =>
    go_wp2_with fail
    go_loopg [13, 14, 15, 16, 18, 19, 20, 21, 22, 23, 24] rl (fun g ks bs ps rr dp jv _ _ _ _ _ wr => ∃ (j : Nat) (L : List Ent), jv = .int .i64 (j : Int) ∧ j ≤ rl ∧ rl - j ≤ g ∧ L = runE sf k own rs j ∧ L.length ≤ j ∧ WF sf k own L ∧ depthE L ≤ 257 ∧ ks = .slice (some ⟨w.heap.size + 3, 0, none⟩) L.length rl ∧ bs = .slice (some ⟨w.heap.size + 4, 0, none⟩) L.length rl ∧ ps = .slice (some ⟨w.heap.size + 5, 0, none⟩) L.length rl ∧ rr = .slice (some ⟨w.heap.size + 6, 0, none⟩) L.length rl ∧ dp = .int .i64 (depthE L : Int) ∧ Lay1 w wr sf k rl L L L L L)
    case atStart => exact ⟨0, [], rfl, Nat.zero_le _, Nat.le_refl _, rfl, Nat.zero_le _, WF.nil _ _ _, by decide, rfl, rfl, rfl, rfl, rfl, HA.out⟩
    case round =>
      obtain ⟨j, L, rfl, hj, hgh, hL, hLj, hWF, hdp, rfl, rfl, rfl, rfl, rfl, hlay⟩ := hrel
      by_cases hlt : j < rl
      · obtain ⟨r, hr⟩ : ∃ r, rs[j]? = some r := ⟨rs[j]'(by rw [HI.out.1]; exact hlt), List.getElem?_eq_getElem _⟩
        obtain ⟨hrk, hrp, _⟩ := HI.out.2.1 j r hr
        obtain ⟨rb, ro, hra, hrb, hin⟩ : ∃ b off, ra = some ⟨b, off, none⟩ ∧ b < w.heap.size ∧ ∀ (i : Nat) (r : Inp), rs[i]? = some r → InpAt w b (off + i * 39) r := by
          rcases HI.out.2.2 with h | h
          · omega
          · exact h
        rw [hra]
        have HInp : Hid (InpAt wr rb (ro + j * 39) r) := by
          intro i v hv
          rw [hlay.bel.cell (p := ⟨rb, ro + j * 39 + i, none⟩) hrb]; exact hin j r hr i v hv
        have HG := hide (And.intro hrk (And.intro hr hra))
        have HLay := hide (And.intro hL (And.intro hWF hlay))
        have c32 : (inpC r)[32]? = some (.int .u8 (r.pick : Int)) := inpC_at r hrk 0 _ rfl
        have c33 : (inpC r)[33]? = some (.int .i64 r.added) := inpC_at r hrk 1 _ rfl
        have c34 : (inpC r)[34]? = some (.int .i64 r.answered) := inpC_at r hrk 2 _ rfl
        have c35 : (inpC r)[35]? = some (.bool r.never) := inpC_at r hrk 3 _ rfl
        have c36 : (inpC r)[36]? = some (.int .i64 r.lookups) := inpC_at r hrk 4 _ rfl
        have c37 : (inpC r)[37]? = some (.int .i64 r.closer) := inpC_at r hrk 5 _ rfl
        have c38 : (inpC r)[38]? = some (.int .i64 r.failed) := inpC_at r hrk 6 _ rfl
        have hmod : (r.pick : Int) % 3 = ((r.pick % 3 : Nat) : Int) := by omega
        clear hr hra hin hL hWF hlay hrk
        go_upto_block 2 with (first | (with_reducible refine wpList_load_inp rfl _ rfl rb (ro + j * 39) (by kernel_rfl) r HInp.out HG.out.1 ?_) | (with_reducible refine wpList_store_last rfl 59 _ _ rfl wr.heap.size _ (inpC r) (by kernel_rfl) (by rfl) (by kernel_rfl) 39 Yba.size59 (inpC_size r HG.out.1) (by kernel_rfl) (inpC_one r) ?_))
        go_cut [71] from 68 to 83 (fun _ wx => wx = (wr.alloc (.cells (inpC r) 59)).alloc (.cells (kcells (keyOf k r)) 29))
        case first => as_aux_lemma =>
          have HKy : Hid (∀ o1 o2 : Obj, KeyAt ((wr.alloc o1).alloc o2) (w.heap.size + 2) 0 k) := fun o1 o2 => by
            have hsz := HLay.out.2.2.sz
            exact (HLay.out.2.2.keep (((Below.refl _ _).alloc hsz o1).alloc (by simp; omega) o2)).k2
          have HPre : Hid (∀ o2 : Obj, KeyAt ((wr.alloc (.cells (inpC r) 59)).alloc o2) wr.heap.size 0 r.key) := fun o2 => by
            have h1 : KeyAt (wr.alloc (.cells (inpC r) 59)) wr.heap.size 0 r.key := by
              intro i v hv
              rw [Nat.zero_add]
              simp only [World.cell?, heap_alloc_new]
              unfold inpC
              have hi : i < (kcells r.key).size := by
                have := (List.getElem?_eq_some_iff.1 hv).1
                simpa using this
              rw [Array.getElem?_append_left hi]
              simpa using hv
            exact h1.below ((Below.refl (wr.heap.size + 1) _).alloc (by simp) o2) (by omega)
          by_cases hp0 : r.pick % 3 = 0
          · have hko : keyOf k r = k := by unfold keyOf; rw [if_pos hp0]
            have HKo := hide hko
            have hpi : ((r.pick % 3 : Nat) : Int) = 0 := by omega
            clear hko hp0
            go_wp2_with (first | (with_reducible refine wpList_load_key rfl _ rfl (w.heap.size + 2) 0 (by kernel_rfl) k (HKy.out _ _) HK.out.2 ?_) | (with_reducible refine wpList_store_last rfl 29 _ _ rfl (wr.heap.size + 1) _ (kcells k) (by kernel_rfl) (by simp) (by kernel_rfl) 32 Yba.size29 (by rw [kcells_size, HK.out.2.len]) (by kernel_rfl) (kcells_one k) ?_))
            go_meet
            case rel => rw [HKo.out]
          · by_cases hp1 : r.pick % 3 = 1
            · have hpi : ((r.pick % 3 : Nat) : Int) = 1 := by omega
              have k31 := kcells_get k 31 (by rw [HK.out.2.len]; omega)
              have hor : bits .or .u8 (r.pick : Int) 1 = ((r.pick ||| 1 : Nat) : Int) := bits_or_u8_nat r.pick 1 hrp (by omega)
              have hx1 : r.pick ||| 1 < 256 := Nat.or_lt_two_pow (n := 8) (by omega) (by omega)
              have hxr := bits_xor_u8_nat (k.getD 31 0) (r.pick ||| 1) (byte_getD HK.out.2.byte 31) hx1
              have hset : (kcells k).setIfInBounds 31 (.int .u8 ((k.getD 31 0 ^^^ (r.pick ||| 1) : Nat) : Int)) = kcells (keyOf k r) := by
                unfold keyOf; rw [if_neg hp0, if_pos hp1, kcells_set]
              have HSet := hide hset
              clear hset hp0 hp1
              generalize k.getD 31 0 = x31 at *
              generalize r.pick ||| 1 = p1 at *
              go_wp2_with (first | (with_reducible refine wpList_load_key rfl _ rfl (w.heap.size + 2) 0 (by kernel_rfl) k (HKy.out _ _) HK.out.2 ?_) | (with_reducible refine wpList_store_last rfl 29 _ _ rfl (wr.heap.size + 1) _ (kcells k) (by kernel_rfl) (by simp) (by kernel_rfl) 32 Yba.size29 (by rw [kcells_size, HK.out.2.len]) (by kernel_rfl) (kcells_one k) ?_))

              go_meet
              case rel => rw [← HSet.out]
            · have hpi : ((r.pick % 3 : Nat) : Int) = 2 := by omega
              have hko : keyOf k r = r.key := by unfold keyOf; rw [if_neg hp0, if_neg hp1]
              have HKo := hide hko
              clear hko hp0 hp1
              go_wp2_with (first | (with_reducible refine wpList_load_k28 rfl _ rfl wr.heap.size 0 (by kernel_rfl) r.key (HPre.out _) HG.out.1 ?_) | (with_reducible refine wpList_store_last rfl 29 _ _ rfl (wr.heap.size + 1) _ (kcells r.key) (by kernel_rfl) (by simp) (by kernel_rfl) 32 Yba.size29 (by rw [kcells_size, HG.out.1.len]) (by kernel_rfl) (kcells_one r.key) ?_))
              go_meet
              case rel => rw [HKo.out]
        case rest => as_aux_lemma =>
          obtain ⟨key, hkey⟩ : ∃ key, key = keyOf k r := ⟨_, rfl⟩
          have hik : IsKey key := by rw [hkey]; exact keyOf_isKey HK.out.2 HG.out.1 hrp
          have hc1 : wc = (wr.alloc (.cells (inpC r) 59)).alloc (.cells (kcells key) 29) := by rw [hkey]; exact hcut
          obtain ⟨wS, rfl⟩ : ∃ x : World, x = wc := ⟨wc, rfl⟩
          have hsz := HLay.out.2.2.sz
          have hbS : Below (w.heap.size + 8) wr wS := by rw [hc1]; exact ((Below.refl _ _).alloc hsz _).alloc (by simp; omega) _
          have hsS : wS.heap.size = wr.heap.size + 2 := by rw [hc1]; simp
          have HcS : Hid (∀ W, Below wS.heap.size wS W → Lay1 w W sf k rl L L L L L ∧ KeyAt W (wr.heap.size + 1) 0 key ∧ (∀ i v, (inpC r)[i]? = some v → W.cell? ⟨wr.heap.size, i, none⟩ = some v) ∧ wr.heap.size + 2 ≤ W.heap.size) := by
            intro W hb
            refine ⟨HLay.out.2.2.keep (hbS.trans (hb.mono (by omega))), ?_, fun i v hv => ?_, by have := hb.size; omega⟩
            · have : KeyAt wS (wr.heap.size + 1) 0 key := by
                rw [hc1]
                have := KeyAt.new (wr.alloc (.cells (inpC r) 59)) key 29
                simpa using this
              exact this.below hb (by omega)
            · rw [hb.cell (p := ⟨wr.heap.size, i, none⟩) (by simp; omega), hc1, World.cell?_of_block (Below.heap_alloc _ _ _ (by simp))]
              simp only [World.cell?, heap_alloc_new]; exact hv
          have hccp := ccpl_any sf key HK.out.1 hik wS
          unfold keyV at hccp
          have HKEY := hide (And.intro hkey hik)
          have HSs := hide hsS
          clear hcut hc1 hbS hsS hkey hik
          go_upto_region 24 with (first | (with_reducible refine wpList_load_k28 rfl _ rfl w.heap.size 0 (by kernel_rfl) sf (HcS.out _ (Below.refl _ _)).1.s0 HK.out.1 ?_) | (with_reducible refine wpList_load_key rfl _ rfl (wr.heap.size + 1) 0 (by kernel_rfl) key (HcS.out _ (Below.refl _ _)).2.1 HKEY.out.2 ?_) | (go_at_call 7; refine hccp.mono ?_; rintro e w1 ⟨rfl, hb1⟩))
          have HB1 := hide hb1
          obtain ⟨hl1, hky1, hin1, hs1⟩ := HcS.out w1 hb1
          have hble : cplN sf key ≤ 256 := by have := cplN_le sf key; rw [HK.out.1.len] at this; omega
          have hcb := hl1.cnts (cplN sf key) hble
          have i33 := hin1 33 _ c33
          have i34 := hin1 34 _ c34
          have i35 := hin1 35 _ c35
          have i36 := hin1 36 _ c36
          have i37 := hin1 37 _ c37
          have i38 := hin1 38 _ c38
          clear c32 c33 c34 c35 c36 c37 c38 hmod hccp hb1 hin1
          have HL1 := hide (And.intro hl1 (And.intro hky1 hs1))
          clear hl1 hky1 hs1
          have HST : Hid (∀ M, stepE sf k own L j r = M → runE sf k own rs (j + 1) = M ∧ WF sf k own M) := by
            intro M hM
            have h1 : runE sf k own rs (j + 1) = stepE sf k own L j r := by
              rw [runE, HG.out.2.1, HLay.out.1]
            exact ⟨h1.trans hM, by rw [← hM]; exact HLay.out.2.1.step j r (by rw [← HKEY.out.1]; exact HKEY.out.2)⟩
          have HSE : Hid (stepE sf k own L j r = if (own && decide (20 ≤ (inB (cplN sf key) L).length)) = true then L else L ++ [⟨key, cplN sf key, (inB (cplN sf key) L).length, recOf j r⟩]) := by
            have : stepE sf k own L j r = if (own && decide (20 ≤ (inB (cplN sf key) L).length)) = true then L else L ++ [⟨key, cplN sf key, (inB (cplN sf key) L).length, recOf j r⟩] := by
              unfold stepE; rw [← HKEY.out.1]
            exact this
          obtain ⟨ans, hans⟩ : ∃ ans, ans = (recOf j r).answered := ⟨_, rfl⟩
          have HN : Hid (ans = if r.never then -9223372036854775808 else r.answered) := by
            have : ans = if r.never then -9223372036854775808 else r.answered := hans
            exact this
          have HRC : Hid (recOf j r = ⟨j + 1, r.added, ans, r.lookups, r.closer, r.failed⟩) := by
            have : recOf j r = ⟨j + 1, r.added, ans, r.lookups, r.closer, r.failed⟩ := by rw [hans]; rfl
            exact this
          clear hans
          have hcl : (inB (cplN sf key) L).length ≤ 65536 := by
            have : (inB (cplN sf key) L).length ≤ L.length := List.length_filter_le _ _
            omega
          generalize hb : cplN sf key = b at *
          have HB := hide hb
          clear hb
          generalize hc : (inB b L).length = c at *
          have HC := hide hc
          clear hc
          by_cases hskip : own = true ∧ 20 ≤ c
          · obtain ⟨rfl, h20⟩ := hskip
            have HS2 : Hid (stepE sf k true L j r = L) := by
              have := HSE.out
              rw [if_pos (by simp [h20])] at this
              exact this
            clear HSE
            go_wp2
            rw [← HG.out.2.2]
            go_roundg (rl - (j + 1))
            case measure => omega
            case rel =>
              obtain ⟨e1, e2⟩ := HST.out _ HS2.out
              exact ⟨j + 1, L, by go_num, by omega, Nat.le_refl _, e1.symm, by omega, e2, hdp, rfl, rfl, rfl, rfl, rfl, HL1.out.1⟩
          · have HS2 : Hid (stepE sf k own L j r = L ++ [⟨key, b, c, recOf j r⟩]) := by
              have := HSE.out
              rw [if_neg (by simp; intro h; exact Nat.lt_of_not_le (fun h2 => hskip ⟨h, h2⟩))] at this
              exact this
            clear HSE
            go_cut [93] from 87 to 93 (fun v wx => v = .bool false ∧ w1 = wx)
            case first => as_aux_lemma =>
              cases own with
              | true =>
                have hc20 : ¬ (20 ≤ c) := fun h => hskip ⟨rfl, h⟩
                clear hskip
                go_wp2
                go_meet
                case rel => exact ⟨by rw [decide_eq_false (by omega)], rfl⟩
              | false =>
                clear hskip
                go_wp2
                go_meet
                case rel => exact ⟨rfl, rfl⟩
            case rest => as_aux_lemma =>
              obtain ⟨rfl, rfl⟩ := hcut
              clear hskip
              go_upto_if 97 with fail
              go_cut [23] from 94 to 97 (fun a wx => a = .int .i64 ans ∧ w1 = wx)
              case first => as_aux_lemma =>
                cases hnv : r.never with
                | true =>
                  have HN2 : Hid (ans = -9223372036854775808) := by
                    have := HN.out; rw [hnv] at this; exact this
                  rw [hnv] at i35
                  clear hnv HN
                  go_wp2
                  go_meet
                  case rel => exact ⟨by rw [HN2.out], rfl⟩
                | false =>
                  have HN2 : Hid (ans = r.answered) := by
                    have := HN.out; rw [hnv] at this; exact this
                  rw [hnv] at i35
                  clear hnv HN
                  go_wp2
                  go_meet
                  case rel => exact ⟨by rw [HN2.out], rfl⟩
              case rest => as_aux_lemma =>
                obtain ⟨rfl, rfl⟩ := hcut
                clear i34 i35
                obtain ⟨rcc, hrcc⟩ : ∃ rcc : Array Value, rcc = #[.int .u64 ((j : Int) + 1), .int .i64 r.added, .int .i64 ans, .int .i64 r.lookups, .int .i64 r.closer, .int .i64 r.failed, .int .u32 0, .int .u32 0] := ⟨_, rfl⟩
                obtain ⟨rc', hrc'⟩ : ∃ x : Rec, x = ⟨j + 1, r.added, ans, r.lookups, r.closer, r.failed⟩ := ⟨_, rfl⟩
                have HB64 : Hid (∀ W : World, (Instr.build 64 #[(0, .int .u64 ((j : Int) + 1)), (1, .int .i64 r.added), (2, .int .i64 ans), (3, .int .i64 r.lookups), (4, .int .i64 r.closer), (5, .int .i64 r.failed)]).run Yba.prog W = .ok (.agg (recC rc')) W) := by
                  have : ∀ W : World, (Instr.build 64 #[(0, .int .u64 ((j : Int) + 1)), (1, .int .i64 r.added), (2, .int .i64 ans), (3, .int .i64 r.lookups), (4, .int .i64 r.closer), (5, .int .i64 r.failed)]).run Yba.prog W = .ok (.agg (recC rc')) W := fun W => by
                    rw [hrc']; exact rec_built _ _ _ _ _ _ W
                  exact this
                have HRC2 := hide hrc'
                clear hrc'
                go_upto_region 29 with (first | (with_reducible refine wpList_build_as rfl 64 _ rfl _ (by kernel_rfl) (recC rc') HB64.out ?_) | (with_reducible refine wpList_store_last rfl 64 _ _ rfl w1.heap.size _ (recC rc') (by kernel_rfl) (by rfl) (by kernel_rfl) 8 Yba.size64 (by kernel_rfl) (by kernel_rfl) (recC_one rc') ?_))
                clear i33 i36 i37 i38
                have hA2 : Arm w wr (w1.alloc (.cells (recC rc') 64)) sf k key rl w1.heap.size rc' L L L L L := by
                  obtain ⟨q1, q2, q3⟩ := HL1.out
                  have hb : Below w1.heap.size w1 (w1.alloc (.cells (recC rc') 64)) := (Below.refl _ _).alloc (Nat.le_refl _) _
                  exact ⟨q1.keep (hb.mono q1.sz), q2.below hb (by omega), range_new _ _ _, hsz, by omega, by simp⟩
                obtain ⟨W2, hW2⟩ : ∃ x, x = w1.alloc (.cells (recC rc') 64) := ⟨_, rfl⟩
                rw [← hW2] at hA2 ⊢
                have hlr : L.length + 1 ≤ rl := by omega
                have HA2 := hide hA2
                clear hA2 hcb HcS hW2
                have HKs : Hid (∀ (i : Nat) (x : Ent), L[i]? = some x → IsKey x.key) := fun i x hx => HLay.out.2.1.isKey i x hx
                go_upto_region 30 with (first | (with_reducible refine wpList_load_key rfl _ rfl (wr.heap.size + 1) 0 (by kernel_rfl) key HA2.out.ky HKEY.out.2 ?_) | (with_reducible refine wpList_buildSlice_as rfl 35 29 _ rfl (.agg (kcells key)) (by kernel_rfl) (kcells key) (lit35 key HKEY.out.2) ?_) | (with_reducible refine wpList_append_new rfl _ _ 35 29 32 rfl Yba.underlying35 Yba.size29 (w.heap.size + 3) L.length rl (kcells key) (by kernel_rfl) (by kernel_rfl) (by rw [kcells_size, HKEY.out.2.len]) (kcells_one key) hlr HA2.out.lay.tK (Nat.lt_of_lt_of_le (by omega) HA2.out.lay.sz) ?_))
                obtain ⟨e, he⟩ : ∃ x : Ent, x = ⟨key, b, c, rc'⟩ := ⟨_, rfl⟩
                have HE := hide he
                clear he
                have hA3 := HA2.out.putK ⟨key, b, c, rc'⟩ (Obj.cells (kcells key) 29) hlr HKEY.out.2 HKs.out
                obtain ⟨W3, hW3⟩ : ∃ x, x = (W2.alloc (.cells (kcells key) 29)).setCells (w.heap.size + 3) (L.length * 32) (kcells key).toList := ⟨_, rfl⟩
                rw [← hW3] at hA3 ⊢
                have HA3 := hide hA3
                clear hA3 hW3 HA2
                go_upto_region 31 with (first | (with_reducible refine wpList_buildSlice_as rfl 56 3 _ rfl (.int .i64 (b : Int)) (by kernel_rfl) #[.int .i64 (b : Int)] (lit56 _) ?_) | (with_reducible refine wpList_append_new rfl _ _ 56 3 1 rfl Yba.underlying56 Yba.size3 (w.heap.size + 4) L.length rl #[.int .i64 (b : Int)] (by kernel_rfl) (by kernel_rfl) (by kernel_rfl) (by kernel_rfl) hlr (HA3.out.tB1) (Nat.lt_of_lt_of_le (by omega) HA3.out.lay.sz) ?_))
                have hA4 := HA3.out.putB ⟨key, b, c, rc'⟩ (Obj.cells #[.int .i64 (b : Int)] 3) hlr
                obtain ⟨W4, hW4⟩ : ∃ x, x = (W3.alloc (.cells #[.int .i64 (b : Int)] 3)).setCells (w.heap.size + 4) L.length [.int .i64 (b : Int)] := ⟨_, rfl⟩
                rw [← hW4] at hA4 ⊢
                have HA4 := hide hA4
                clear hA4 hW4 HA3
                have hcb4 : W4.cell? ⟨w.heap.size + 7, b, none⟩ = some (.int .i64 (c : Int)) := by rw [HA4.out.lay.cnts b hble, HC.out]
                go_upto_region 32 with (first | (with_reducible refine wpList_buildSlice_as rfl 56 3 _ rfl (.int .i64 (c : Int)) (by kernel_rfl) #[.int .i64 (c : Int)] (lit56 _) ?_) | (with_reducible refine wpList_append_new rfl _ _ 56 3 1 rfl Yba.underlying56 Yba.size3 (w.heap.size + 5) L.length rl #[.int .i64 (c : Int)] (by kernel_rfl) (by kernel_rfl) (by kernel_rfl) (by kernel_rfl) hlr (HA4.out.tP1) (Nat.lt_of_lt_of_le (by omega) HA4.out.lay.sz) ?_))
                have hA5 := HA4.out.putP ⟨key, b, c, rc'⟩ (Obj.cells #[.int .i64 (c : Int)] 3) hlr
                obtain ⟨W5, hW5⟩ : ∃ x, x = (W4.alloc (.cells #[.int .i64 (c : Int)] 3)).setCells (w.heap.size + 5) L.length [.int .i64 (c : Int)] := ⟨_, rfl⟩
                rw [← hW5] at hA5 ⊢
                have HA5 := hide hA5
                clear hcb4 hA5 hW5 HA4
                go_upto_region 33 with (first | (with_reducible refine wpList_load_rec rfl _ rfl w1.heap.size 0 (by kernel_rfl) rc' HA5.out.rcd ?_) | (with_reducible refine wpList_buildSlice_as rfl 41 64 _ rfl (.agg (recC rc')) (by kernel_rfl) (recC rc') (lit41 rc') ?_) | (with_reducible refine wpList_append_new rfl _ _ 41 64 8 rfl Yba.underlying41 Yba.size64 (w.heap.size + 6) L.length rl (recC rc') (by kernel_rfl) (by kernel_rfl) (by kernel_rfl) (recC_one rc') hlr HA5.out.lay.tR (Nat.lt_of_lt_of_le (by omega) HA5.out.lay.sz) ?_))
                have hA6 := HA5.out.putR ⟨key, b, c, rc'⟩ (Obj.cells (recC rc') 64) hlr
                obtain ⟨W6, hW6⟩ : ∃ x, x = (W5.alloc (.cells (recC rc') 64)).setCells (w.heap.size + 6) (L.length * 8) (recC rc').toList := ⟨_, rfl⟩
                rw [← hW6] at hA6 ⊢
                have HA6 := hide hA6
                clear hA6 hW6 HA5
                have hcb6 : W6.cell? ⟨w.heap.size + 7, b, none⟩ = some (.int .i64 (c : Int)) := by rw [HA6.out.lay.cnts b hble, HC.out]
                have hcf6 : W6.frozen? ⟨w.heap.size + 7, b, none⟩ = false := by
                  have := (HA6.out.lay.tC b (by omega)).2
                  rw [Nat.zero_add] at this; exact this
                have HS3 : Hid (stepE sf k own L j r = L ++ [(⟨key, b, c, rc'⟩ : Ent)]) := by
                  have := HS2.out
                  rw [HRC.out, ← HRC2.out] at this
                  exact this
                have HF : Hid (Lay1 w (W6.setCell ⟨w.heap.size + 7, b, none⟩ (.int .i64 ((c : Int) + 1))) sf k rl (L ++ [(⟨key, b, c, rc'⟩ : Ent)]) (L ++ [(⟨key, b, c, rc'⟩ : Ent)]) (L ++ [(⟨key, b, c, rc'⟩ : Ent)]) (L ++ [(⟨key, b, c, rc'⟩ : Ent)]) (L ++ [(⟨key, b, c, rc'⟩ : Ent)])) := by
                  have := HA6.out.lay.addC ⟨key, b, c, rc'⟩ hble
                  rw [HC.out] at this
                  exact this
                have HLN : Hid ((L ++ [(⟨key, b, c, rc'⟩ : Ent)]).length = L.length + 1) := by
                  have : (L ++ [(⟨key, b, c, rc'⟩ : Ent)]).length = L.length + 1 := by simp
                  exact this
                by_cases hd : depthE L < b + 1
                · have HD : Hid (depthE (L ++ [(⟨key, b, c, rc'⟩ : Ent)]) = b + 1) := by
                    have : depthE (L ++ [(⟨key, b, c, rc'⟩ : Ent)]) = b + 1 := by rw [depthE_append]; exact Nat.max_eq_right (show depthE L ≤ b + 1 by omega)
                    exact this
                  go_wp2
                  rw [← HG.out.2.2]
                  go_roundg (rl - (j + 1))
                  case measure => omega
                  case rel =>
                    obtain ⟨e1, e2⟩ := HST.out _ HS3.out
                    refine ⟨j + 1, L ++ [(⟨key, b, c, rc'⟩ : Ent)], by go_num, by omega, Nat.le_refl _, e1.symm, by rw [HLN.out]; omega, e2, by rw [HD.out]; omega, by rw [HLN.out], by rw [HLN.out], by rw [HLN.out], by rw [HLN.out], by rw [HD.out]; go_num, HF.out⟩
                · have HD : Hid (depthE (L ++ [(⟨key, b, c, rc'⟩ : Ent)]) = depthE L) := by
                    have : depthE (L ++ [(⟨key, b, c, rc'⟩ : Ent)]) = depthE L := by rw [depthE_append]; exact Nat.max_eq_left (show b + 1 ≤ depthE L by omega)
                    exact this
                  go_wp2
                  rw [← HG.out.2.2]
                  go_roundg (rl - (j + 1))
                  case measure => omega
                  case rel =>
                    obtain ⟨e1, e2⟩ := HST.out _ HS3.out
                    refine ⟨j + 1, L ++ [(⟨key, b, c, rc'⟩ : Ent)], by go_num, by omega, Nat.le_refl _, e1.symm, by rw [HLN.out]; omega, e2, by rw [HD.out]; omega, by rw [HLN.out], by rw [HLN.out], by rw [HLN.out], by rw [HLN.out], by rw [HD.out], HF.out⟩
      · obtain rfl : j = rl := by omega
        have HH := hide (And.intro hL (And.intro hlay hWF))
        clear hL hlay hWF
        go_wp2
        go_meet
        case rel => exact ⟨L, HH.out.1, hLj, HH.out.2.2, hdp, rfl, rfl, rfl, rfl, rfl, HH.out.2.1⟩
  case rest => as_aux_lemma =>
    obtain ⟨L, hLr, hLn, hWF, hdp, rfl, rfl, rfl, rfl, rfl, hlay⟩ := hcut
    obtain ⟨W0, rfl⟩ : ∃ x : World, x = wc := ⟨wc, rfl⟩
    have HBN : Hid (∀ e, e ∈ L → Bnd e.rc) := by
      have : ∀ e, e ∈ L → Bnd e.rc := fun e he => runE_good sf k own rs HI.out.2.1 rl e (hLr ▸ he)
      exact this
    obtain ⟨d, hd⟩ : ∃ d, d = depthE L := ⟨_, rfl⟩
    rw [← hd] at hdp ⊢
    have HD := hide hd
    have HWF := hide hWF
    have HLay := hide hlay
    clear hd hWF hlay hLr HA HA3 HI
    have hadd := add_exact 0 0 ep (by omega) hep1 hep2
    have hwlt : addN 0 ep < 1000000000 := addN_lt 0 ep (by omega)
    have HWL := hide hwlt
    clear hwlt
    unfold timeV at hadd
    generalize addX 0 (addC 0 ep) = ex at *
    generalize addN 0 ep = wl at *
    obtain ⟨C, hC, hTC⟩ := table_built sf HK.out.1 W0.heap.size wl ex own
    unfold tabVs at hC
    have HC := hide hC
    have HTC := hide hTC
    clear hC hTC
    go_upto_region 38 with (first | (go_at_call 8; refine (hadd _).mono ?_; rintro e w5 ⟨rfl, rfl⟩))
    obtain ⟨W4, hW4⟩ : ∃ x, x = (((W0.alloc (.cells #[.int .i64 0, .int .i64 0] 67)).alloc (.cells (timeC wl ex) 38)).alloc (.cells (timeC wl ex) 38)).alloc (.cells (timeC wl ex) 38) := ⟨_, rfl⟩
    have hW4' := hW4
    unfold timeC at hW4'
    rw [← hW4']
    have hb4 : Below W0.heap.size W0 W4 := by rw [hW4]; exact ((((Below.refl _ _).alloc (Nat.le_refl _) _).alloc (by simp) _).alloc (by simp; omega) _).alloc (by simp; omega) _
    have hs4 : W4.heap.size = W0.heap.size + 4 := by rw [hW4]; simp
    have hr4 : W4.heap[W0.heap.size + 3]? = some (.cells (timeC wl ex) 38 (0, 0)) := by
      rw [hW4]
      have := heap_alloc_new (((W0.alloc (.cells #[.int .i64 0, .int .i64 0] 67)).alloc (.cells (timeC wl ex) 38)).alloc (.cells (timeC wl ex) 38)) (.cells (timeC wl ex) 38)
      simpa using this
    have hks : KeyAt W4 w.heap.size 0 sf := HLay.out.s0.below hb4 (by have := HLay.out.sz; omega)
    have p0 : W4.cell? ⟨W0.heap.size + 3, 0, none⟩ = some (.int .u64 (wl : Int)) := (row_cell hr4 0).1
    have p1 : W4.cell? ⟨W0.heap.size + 3, 1, none⟩ = some (.int .i64 ex) := (row_cell hr4 1).1
    have p2 : W4.cell? ⟨W0.heap.size + 3, 2, none⟩ = some (.pointer none) := (row_cell hr4 2).1
    have HKS := hide hks
    have HW4 := hide hW4
    have HS4 := hide hs4
    clear hks hb4 hW4 hW4' hr4 hadd hs4
    rw [show W0.heap.size + 1 + 1 + 1 = W0.heap.size + 3 from rfl]
    go_upto_if 153 with (first | (with_reducible refine wpList_load_k28 rfl _ rfl w.heap.size 0 (by kernel_rfl) sf HKS.out HK.out.1 ?_) | (with_reducible refine wpList_build_as rfl 51 _ rfl _ (by kernel_rfl) C HC.out ?_))
    obtain ⟨W5, hW5⟩ : ∃ x, x = W4.alloc (.cells C 51) := ⟨_, rfl⟩
    rw [← hW5]
    have hs5 : W5.heap.size = W4.heap.size + 1 := by rw [hW5]; simp
    have hr5 : W5.heap[W4.heap.size]? = some (.cells C 51 (0, 0)) := by rw [hW5]; exact heap_alloc_new _ _
    obtain ⟨u34, hu34⟩ := Option.isSome_iff_exists.1 HTC.out.c34
    have c34 : W5.cell? ⟨W4.heap.size, 34, none⟩ = some u34 := (row_cell hr5 34).1.trans hu34
    have f34 : W5.frozen? ⟨W4.heap.size, 34, none⟩ = false := (row_cell hr5 34).2
    have HR5 := hide hr5
    have HW5 := hide hW5
    have HS5 := hide hs5
    clear hr5 hW5 hs5 hu34 p0 p1 p2 HKS HC
    go_cut [153] from 140 to 166 (fun _ wx => ∃ B O cap N, Tab w wx sf k rl L ⟨W0.heap.size, W0.heap.size + 3, W0.heap.size + 4, B, O, d, cap, wl, N, ex⟩ ∧ Lk wx W0.heap.size ∧ wx.heap.size = N)
    case first => as_aux_lemma =>
      have hlt := World.block_lt_of_cell? W5 ⟨W4.heap.size, 34, none⟩ c34
      by_cases hd : d ≤ 24
      · go_wp2
        go_meet
        case rel =>
          have hs4 := HS4.out
          have hs5 := HS5.out
          have ht : W5.there (W4.heap.size) 53 (d * 49) := by
            intro j hj
            obtain ⟨h1, h2⟩ := row_cell HR5.out (53 + j)
            refine ⟨?_, h2⟩
            rw [h1, Array.getElem?_eq_getElem (by rw [HTC.out.sz]; omega)]; rfl
          rw [hs4] at ht
          obtain ⟨q1, q2, q3⟩ := tab_start (W5 := W5) HLay.out HTC.out (by rw [HW5.out, HW4.out]) (Below.refl _ _) (W0.heap.size + 4) 53 d 24 (W0.heap.size + 5) (Or.inl ⟨rfl, rfl⟩) ht (fun _ => ⟨rfl, rfl⟩) hdp HD.out (by omega) (by omega) HWL.out rfl
          rw [hs4]
          exact ⟨_, _, _, _, q1, q2, q3⟩
      · obtain ⟨A, hA, hm34⟩ := make_full 34 48 d 49 Yba.underlying34 Yba.zero48 (by omega)
        have HA := hide hA
        clear hA
        go_wp2
        go_meet
        case rel =>
          have hs4 := HS4.out
          have hs5 := HS5.out
          have ht : (W5.alloc (.cells A 48)).there (W0.heap.size + 5) 0 (d * 49) := by
            have := there_new W5 A 48
            rw [HA.out, hs5, hs4] at this; exact this
          obtain ⟨q1, q2, q3⟩ := tab_start (W5 := W5) HLay.out HTC.out (by rw [HW5.out, HW4.out]) ((Below.refl _ _).alloc (by omega) (.cells A 48)) (W0.heap.size + 5) 0 d d (W0.heap.size + 6) (Or.inr rfl) ht (fun h => by omega) hdp HD.out (by simp; omega) (by omega) HWL.out rfl
          have he := World.setCell_alloc_past (w := W5) (.cells A 48) (W0.heap.size + 4) 34 (.slice (some ⟨W0.heap.size + 5, 0, none⟩) d d) (by omega)
          rw [he] at q1 q2 q3
          rw [hs5, hs4]
          exact ⟨_, _, _, _, q1, q2, q3⟩
    case rest => as_aux_lemma =>
      obtain ⟨B, O, cap, N, hT, hLk, hN⟩ := hcut
      rw [HS4.out]
      obtain ⟨G, hG⟩ : ∃ G : Geo, G = ⟨W0.heap.size, W0.heap.size + 3, W0.heap.size + 4, B, O, d, cap, wl, N, ex⟩ := ⟨_, rfl⟩
      rw [← hG] at hT
      have g1 : W0.heap.size = G.l := by rw [hG]
      have g2 : W0.heap.size + 3 = G.eb := by rw [hG]
      have g3 : W0.heap.size + 4 = G.tb := by rw [hG]
      have g4 : d = G.d := by rw [hG]
      have g5 : N = G.N := by rw [hG]
      rw [g5] at hN
      rw [g3, g2, g1]
      rw [g1] at hLk
      have HF := hide (Full.start (own := own) hT HK.out.1.len hLk)
      have HN := hide hN
      clear c34 f34 HR5 HW5 HS5 HS4 HW4 HTC HWL hG g1 g2 g3 g5 hT hLk hN HLay W5 W4 C HD
      subst g4
      go_upto_block 3 with fail
      go_cut [28, 29, 30] from 167 to 201 (fun _ _ _ wx => Full w wx sf k rl L own true G G.d [] [] [] [])
      case first => as_aux_lemma =>
        go_wp2_with fail
        go_loopg [28, 29, 30] G.d (fun g bv _ _ wr => ∃ b : Nat, bv = .int .i64 (b : Int) ∧ b ≤ G.d ∧ G.d - b ≤ g ∧ Full w wr sf k rl L own true G b [] [] [] [] ∧ wr.heap.size = G.N + 3 * b)
        case atStart => exact ⟨0, rfl, Nat.zero_le _, Nat.le_refl _, HF.out, HN.out⟩
        case round =>
          obtain ⟨b, rfl, hb, hgh, hF, hsz⟩ := hrel
          by_cases hlt : b < G.d
          · have hcn := hF.tab.lay.cnts b (by omega)
            have c34 := hF.tab.c34
            have hB0 : G.B < wr.heap.size := by have := hF.tab.lt; omega
            have hcell : ∀ o, o < 49 → ∃ u, wr.cell? ⟨G.B, G.O + b * 49 + o, none⟩ = some u ∧ wr.frozen? ⟨G.B, G.O + b * 49 + o, none⟩ = false := fun o ho => by
              have := hF.tab.tBk (b * 49 + o) (by omega)
              rw [← Nat.add_assoc] at this
              obtain ⟨u, hu⟩ := Option.isSome_iff_exists.1 this.1
              exact ⟨u, hu, this.2⟩
            obtain ⟨u2, d2, f2⟩ := hcell 2 (by omega)
            obtain ⟨u3, d3, f3⟩ := hcell 3 (by omega)
            obtain ⟨u4, d4, f4⟩ := hcell 4 (by omega)
            obtain ⟨u5, d5, f5⟩ := hcell 5 (by omega)
            clear hcell
            have hcl : (inB b L).length ≤ 65536 := by
              have : (inB b L).length ≤ L.length := List.length_filter_le _ _
              omega
            have HFR := hide (And.intro hF hsz)
            clear hF hsz
            obtain ⟨c, hc⟩ : ∃ c, (inB b L).length = c := ⟨_, rfl⟩
            rw [hc] at hcn hcl
            have HC := hide hc
            clear hc
            obtain ⟨A8, hA8, hm41⟩ := make_some 41 64 c 8 56 Yba.underlying41 Yba.zero64 (by omega) hcl
            obtain ⟨A32, hA32, hm35⟩ := make_some 35 29 c 32 32 Yba.underlying35 Yba.zero29 (by omega) hcl
            obtain ⟨A1, hA1, hm40⟩ := make_some 40 22 c 1 8 Yba.underlying40 Yba.zero22 (by omega) hcl
            have HAs := hide (And.intro hA8 (And.intro hA32 hA1))
            clear hA8 hA32 hA1
            go_upto_region 50 with fail
            obtain ⟨W2, hW2⟩ : ∃ x, x = (((((wr.setCell ⟨G.B, G.O + b * 49 + 2, none⟩ (.bool own)).setCell ⟨G.B, G.O + b * 49 + 3, none⟩ (.slice (some ⟨wr.heap.size, 0, none⟩) 0 c)).setCell ⟨G.B, G.O + b * 49 + 4, none⟩ (.slice (some ⟨wr.heap.size + 1, 0, none⟩) 0 c)).alloc (.cells A8 64)).alloc (.cells A32 29)) := ⟨_, rfl⟩
            rw [← hW2]
            have hs2 : W2.heap.size = wr.heap.size + 2 := by rw [hW2]; simp [World.setCell]
            have g2 : Off (G.B + 1) (fun x o => x = G.B ∧ o + 1 ≤ G.O + b * 49 + 5) wr W2 := by
              rw [hW2]
              exact (((((Off.setCell _ _ _ _ _).mono (fun _ _ q => by omega)).trans ((Off.setCell _ _ _ _ _).mono (fun _ _ q => by omega))).trans ((Off.setCell _ _ _ _ _).mono (fun _ _ q => by omega))).trans (Off.alloc _ _)).trans (Off.alloc _ _)
            have e5 : W2.cell? ⟨G.B, G.O + b * 49 + 5, none⟩ = some u5 := (g2.cell _ _ hB0 (fun hh => by omega)).trans d5
            have k5 : W2.frozen? ⟨G.B, G.O + b * 49 + 5, none⟩ = false := (g2.frz _ _ hB0 (fun hh => by omega)).trans f5
            have hBl : G.B < W2.heap.size := by omega
            have HW2 := hide hW2
            have HS2 := hide hs2
            clear hW2 hs2 g2 d2 d3 d4 d5 f2 f3 f4 f5 c34 hcn hm41 hm35 hB0
            go_wp2
            go_roundg (G.d - (b + 1))
            case measure => omega
            case rel =>
              obtain ⟨hF, hsz⟩ := HFR.out
              obtain ⟨q1, q2⟩ := hF.grow2 (t8 := 64) (t32 := 29) (t1 := 22) hlt hsz HC.out HAs.out.1 HAs.out.2.1 HAs.out.2.2 HW2.out
              exact ⟨b + 1, by go_num, by omega, Nat.le_refl _, q1, q2⟩
          · obtain rfl : b = G.d := by omega
            have HFR := hide hF
            clear hF
            go_wp2
            go_meet
            case rel => exact HFR.out
      case rest => as_aux_lemma =>
        have HF3 := hide hcut
        clear hcut HF HN
        go_upto_block 5 with fail
        go_cut [31, 32, 33] from 202 to 271 (fun _ _ _ wx => Full w wx sf k rl L own true G G.d L L L L)
        case first => as_aux_lemma =>
          go_wp2_with fail
          go_loopg [31, 32, 33] L.length (fun g jv _ _ wr => ∃ j : Nat, jv = .int .i64 (j : Int) ∧ j ≤ L.length ∧ L.length - j ≤ g ∧ Full w wr sf k rl L own true G G.d (L.take j) (L.take j) (L.take j) (L.take j))
          case atStart => exact ⟨0, rfl, Nat.zero_le _, Nat.le_refl _, HF3.out⟩
          case round =>
            obtain ⟨j, rfl, hj, hgh, hF⟩ := hrel
            by_cases hlt : j < L.length
            · obtain ⟨e, he⟩ : ∃ e, L[j]? = some e := ⟨L[j], List.getElem?_eq_getElem hlt⟩
              have hsp : L = L.take j ++ e :: L.drop (j + 1) := by
                have : L[j] = e := (List.getElem?_eq_some_iff.1 he).2
                rw [← this, List.getElem_cons_drop, List.take_append_drop]
              have htk : L.take (j + 1) = L.take j ++ [e] := by rw [List.take_add_one, he]; rfl
              obtain ⟨hp, hcb, hik⟩ := HWF.out.1 _ _ _ hsp
              have hbd : e.b < G.d := by rw [hF.tab.dd]; exact depthE_le L e (List.mem_of_getElem? he)
              have hlen : (inB e.b (L.take j)).length + 1 ≤ (inB e.b L).length := by
                have := inB_at HWF.out hsp
                rw [this]; simp
              have c34 := hF.tab.c34
              have hbk := hF.tab.lay.bks j e he
              have hd257 := hF.tab.d2
              have HLs : Hid (L.take (j + 1) = L.take j ++ [e] ∧ e.pos = (inB e.b (L.take j)).length ∧ IsKey e.key ∧ L[j]? = some e ∧ (inB e.b (L.take j)).length + 1 ≤ (inB e.b L).length) := ⟨htk, hp, hik, he, hlen⟩
              have HFj := hide hF
              clear hF hsp htk hp hcb hik he hlen
              have hLl : L.length ≤ 65536 := by omega
              go_upto_region 54 with fail
              go_quiet (fail)
              have hF1 := HFj.out.keep (below_drewN wr nq _)
              obtain ⟨W1, hW1⟩ : ∃ x, x = wr.drewN nq := ⟨_, rfl⟩
              rw [← hW1] at hF1 ⊢
              have HF1 := hide hF1
              clear hW1 hF1 HFj c34 hbk
              have hch := chead_any e.key HLs.out.2.2.1 W1
              unfold keyV at hch
              go_upto_region 56 with (first | (with_reducible refine wpList_load_key rfl _ rfl (w.heap.size + 3) (j * 32) (by kernel_rfl) e.key (HF1.out.tab.lay.keys j e HLs.out.2.2.2.1) HLs.out.2.2.1 ?_) | (go_at_call 9; refine hch.mono ?_; rintro e1 w1 ⟨rfl, hb1⟩))
              have HF2 := hide (HF1.out.keep hb1)
              clear hch hb1 HF1
              generalize hhv : (beN (e.key.take 8)) = hv at *
              have HHV := hide hhv
              clear hhv
              go_cut [222] from 222 to 234 (fun _ wx => Full w wx sf k rl L own true G G.d (L.take j ++ [e]) (L.take j) (L.take j) (L.take j))
              case first => as_aux_lemma =>
                have hbk := HF2.out.bk e.b hbd
                have hc3 := hbk.c3
                have hlen := HLs.out.2.2.2.2
                have hrc := HF2.out.tab.lay.recs j e HLs.out.2.2.2.1
                have HRCA := hide hrc
                obtain ⟨rcc, hrcc⟩ : ∃ x, x = recC e.rc := ⟨_, rfl⟩
                have f3 : w1.frozen? ⟨G.B, G.O + e.b * 49 + 3, none⟩ = false := by
                  have := (HF2.out.tab.tBk (e.b * 49 + 3) (by omega)).2
                  rw [← Nat.add_assoc] at this; exact this
                have hlts := HF2.out.tab.lt
                have hsz := HF2.out.sz
                have hBl : G.B < w1.heap.size := by omega
                have hgl : G.N + 3 * e.b < w1.heap.size := by omega
                have HT : Hid ((w1.drew.alloc (.cells (recC e.rc) 64)).there (G.N + 3 * e.b) 0 ((inB e.b L).length * 8)) := by
                  have : (w1.drew.alloc (.cells (recC e.rc) 64)).there (G.N + 3 * e.b) 0 ((inB e.b L).length * 8) := there_below hbk.tR ((Below.refl _ _).drew.alloc (Nat.le_refl _) _) hgl
                  exact this
                have HRG : Hid ((w1.drew.alloc (.cells (recC e.rc) 64)).rangeAt w1.heap.size 0 rcc.toList) := by
                  have : (w1.drew.alloc (.cells (recC e.rc) 64)).rangeAt w1.heap.size 0 rcc.toList := by
                    rw [hrcc]; exact range_new w1.drew _ _
                  exact this
                have HRC := hide hrcc
                have hr8 : rcc.size = 8 := by rw [hrcc]; rfl
                have hr1 : rcc.all (·.oneCell') = true := by rw [hrcc]; exact recC_one _
                have HR := hide (And.intro hr8 hr1)
                clear hr8 hr1 hrcc hrc hbk hlts hsz
                obtain ⟨m, hm⟩ : ∃ m, (inB e.b (L.take j)).length = m := ⟨_, rfl⟩
                obtain ⟨c, hc⟩ : ∃ c, (inB e.b L).length = c := ⟨_, rfl⟩
                rw [hm, hc] at hc3 hlen
                rw [hc] at HT
                have HMC := hide (And.intro hm hc)
                clear hm hc
                obtain ⟨V2, hV2⟩ : ∃ x, x = (w1.alloc (.cells rcc 64)).setCells (G.N + 3 * e.b) (m * 8) rcc.toList := ⟨_, rfl⟩
                have HVV : Hid ((w1.drew.alloc (.cells (recC e.rc) 64)).setCells (G.N + 3 * e.b) (m * 8) rcc.toList = V2.drew) := by
                  have : (w1.drew.alloc (.cells (recC e.rc) 64)).setCells (G.N + 3 * e.b) (m * 8) rcc.toList = V2.drew := by
                    rw [hV2, ← setCells_drew, HRC.out]; rfl
                  exact this
                have g2 : Off (G.B + 1) (fun x o => x = G.N + 3 * e.b) w1 V2 := by
                  rw [hV2]; exact (Off.alloc _ _).trans ((Off.setCells _ _ _ _ _).mono (fun _ _ q => q.1))
                have hne : ¬ G.B = G.N + 3 * e.b := by have := HF2.out.tab.lt; omega
                have q3 : V2.cell? ⟨G.B, G.O + e.b * 49 + 3, none⟩ = some (.slice (some ⟨G.N + 3 * e.b, 0, none⟩) m c) := (g2.cell _ _ hBl hne).trans hc3
                have k3 : V2.frozen? ⟨G.B, G.O + e.b * 49 + 3, none⟩ = false := (g2.frz _ _ hBl hne).trans f3
                have hr6 : w.heap.size + 6 < w1.heap.size := by have := HF2.out.tab.lay.sz; omega
                have HSA : Hid ((w1.drew.alloc (.cells (recC e.rc) 64)).cell? ⟨G.B, G.O + e.b * 49 + 3, none⟩ = some (.slice (some ⟨G.N + 3 * e.b, 0, none⟩) m c) ∧ RecAt (w1.drew.alloc (.cells (recC e.rc) 64)) (w.heap.size + 6) (j * 8) e.rc) := by
                  have hb : Below w1.heap.size w1 (w1.drew.alloc (.cells (recC e.rc) 64)) := (Below.refl _ _).drew.alloc (Nat.le_refl _) _
                  exact ⟨(hb.cell (p := ⟨G.B, G.O + e.b * 49 + 3, none⟩) hBl).trans hc3, HRCA.out.below hb hr6⟩
                have HSV : Hid (V2.drew.cell? ⟨G.B, G.O + e.b * 49 + 3, none⟩ = some (.slice (some ⟨G.N + 3 * e.b, 0, none⟩) m c) ∧ RecAt V2.drew (w.heap.size + 6) (j * 8) e.rc) := by
                  refine And.intro q3 ?_
                  exact RecAt.below (g2.range HRCA.out hr6 (fun jj _ hh => by have := HF2.out.tab.lay.sz; have := HF2.out.tab.ge; have := HF2.out.tab.lt; omega)) (Below.refl (w.heap.size + 7) V2).drew (by omega)
                have HV2 := hide hV2
                clear hV2 g2 f3
                have HP : Hid (Full w (V2.setCell ⟨G.B, G.O + e.b * 49 + 3, none⟩ (.slice (some ⟨G.N + 3 * e.b, 0, none⟩) (m + 1) c)).drew sf k rl L own true G G.d (L.take j ++ [e]) (L.take j) (L.take j) (L.take j)) := by
                  have hp := (HF2.out.keep ((Below.refl _ _).alloc (Nat.le_refl _) (.cells rcc 64))).putR e hbd HLs.out.2.2.2.2
                  rw [HMC.out.1, HMC.out.2, ← HRC.out, ← HV2.out] at hp
                  exact hp.keep (Below.refl _ _).drew
                clear HV2 HRC HMC HF2
                refine wp_region_T 13 14 (fun W => W.cell? ⟨G.B, G.O + e.b * 49 + 3, none⟩ = some (.slice (some ⟨G.N + 3 * e.b, 0, none⟩) m c) ∧ RecAt W (w.heap.size + 6) (j * 8) e.rc) (by kernel_rfl) (by kernel_rfl) ?_
                intro a ha
                have e16 : a.eval (.tmp 16) = .slice (some ⟨w.heap.size + 6, 0, none⟩) L.length rl := by rw [ha]; rfl
                have e31 : a.eval (.tmp 31) = .int .i64 (j : Int) := by rw [ha]; rfl
                have e32 : a.eval (.tmp 32) = .pointer (some ⟨G.B, G.O + e.b * 49, none⟩) := by rw [ha]; rfl
                have hsz : a.tmps.size = 390 := by rw [ha]; rfl
                have hS : w1.drew.cell? ⟨G.B, G.O + e.b * 49 + 3, none⟩ = some (.slice (some ⟨G.N + 3 * e.b, 0, none⟩) m c) ∧ RecAt w1.drew (w.heap.size + 6) (j * 8) e.rc := ⟨by simpa using hc3, by unfold RecAt; rw [World.rangeAt_drew]; exact HRCA.out⟩
                refine wpAnyT_take 0 (some 222) (.pointer (some ⟨G.B, G.O + e.b * 49, none⟩)) rfl rfl (by kernel_rfl) (by kernel_rfl) (by kernel_rfl) (by kernel_rfl) (fun _ _ _ h => h) hS (yi_run rfl (fun W hW => run_move rfl (by simp [eval_same, eval_ne, put_size, hsz, e16, e31, e32]))) ?_
                refine wpAnyT_take 1 (some 223) (.pointer (some ⟨G.B, G.O + e.b * 49, none⟩)) rfl rfl (by kernel_rfl) (by kernel_rfl) (by kernel_rfl) (by kernel_rfl) (fun _ _ _ h => h) hS (yi_run rfl (fun W hW => run_move rfl (by simp [eval_same, eval_ne, put_size, hsz, e16, e31, e32]))) ?_
                refine wpAnyT_take 2 (some 224) (.pointer (some ⟨G.B, G.O + e.b * 49, none⟩)) rfl rfl (by kernel_rfl) (by kernel_rfl) (by kernel_rfl) (by kernel_rfl) (fun _ _ _ h => h) hS (yi_run rfl (fun W hW => run_nil rfl (by simp [eval_same, eval_ne, put_size, hsz, e16, e31, e32]))) ?_
                refine wpAnyT_take 3 (some 225) (.pointer (some ⟨G.B, G.O + e.b * 49 + 3, none⟩)) rfl rfl (by kernel_rfl) (by kernel_rfl) (by kernel_rfl) (by kernel_rfl) (fun _ _ _ h => h) hS (yi_run rfl (fun W hW => run_field rfl (by simp [eval_same, eval_ne, put_size, hsz, e16, e31, e32]) (field48_3 _ _ W))) ?_
                refine wpAnyT_take 4 (some 226) (.slice (some ⟨G.N + 3 * e.b, 0, none⟩) m c) rfl rfl (by kernel_rfl) (by kernel_rfl) (by kernel_rfl) (by kernel_rfl) (fun _ _ _ h => h) hS (yi_run rfl (fun W hW => run_load rfl (by simp [eval_same, eval_ne, put_size, hsz, e16, e31, e32]) (load41 _ _ _ _ _ W hW.1))) ?_
                refine wpAnyT_take 5 (some 227) (.slice (some ⟨w.heap.size + 6, 0, none⟩) L.length rl) rfl rfl (by kernel_rfl) (by kernel_rfl) (by kernel_rfl) (by kernel_rfl) (fun _ _ _ h => h) hS (yi_run rfl (fun W hW => run_move rfl (by simp [eval_same, eval_ne, put_size, hsz, e16, e31, e32]))) ?_
                refine wpAnyT_take 6 (some 228) (.int .i64 (j : Int)) rfl rfl (by kernel_rfl) (by kernel_rfl) (by kernel_rfl) (by kernel_rfl) (fun _ _ _ h => h) hS (yi_run rfl (fun W hW => run_move rfl (by simp [eval_same, eval_ne, put_size, hsz, e16, e31, e32]))) ?_
                refine wpAnyT_take 7 (some 229) (.pointer (some ⟨w.heap.size + 6, j * 8, none⟩)) rfl rfl (by kernel_rfl) (by kernel_rfl) (by kernel_rfl) (by kernel_rfl) (fun _ _ _ h => h) hS (yi_index rfl 41 _ _ rfl (.slice (some ⟨w.heap.size + 6, 0, none⟩) L.length rl) (.int .i64 (j : Int)) _ (by simp [eval_same, eval_ne, put_size, hsz, e16, e31, e32]) (by simp [eval_same, eval_ne, put_size, hsz, e16, e31, e32]) (index41 _ _ _ j hlt)) ?_
                refine wpAnyT_take 8 (some 230) (.agg (recC e.rc)) rfl rfl (by kernel_rfl) (by kernel_rfl) (by kernel_rfl) (by kernel_rfl) (fun _ _ _ h => h) hS (yi_load_row rfl 64 _ rfl (w.heap.size + 6) (j * 8) (by simp [eval_same, eval_ne, put_size, hsz, e16, e31, e32]) (recC e.rc) _ (fun W hW => hW.2) Yba.underlying64 rfl (by rw [Yba.size64]; rfl)) ?_
                refine wpAnyT_only (i := 9) (by kernel_rfl) rfl rfl (wp_buildSlice_as (some 231) rfl 41 64 _ rfl (.agg (recC e.rc)) (by simp [eval_same, eval_ne, put_size, hsz, e16, e31, e32]) (recC e.rc) (lit41 e.rc) ⟨Or.inr HSA.out, ?_⟩)
                refine wpAnyT_only (i := 10) (by kernel_rfl) rfl rfl (wp_append_at (some 232) rfl (.tmp 226) (.tmp 231) 41 64 8 rfl Yba.underlying41 Yba.size64 (G.N + 3 * e.b) m c w1.heap.size rcc (by simp [eval_same, eval_ne, put_size, hsz, e16, e31, e32]) (by simp [eval_same, eval_ne, put_size, hsz, e16, e31, e32]) HR.out.1 HR.out.2 hlen HRG.out HT.out V2.drew HVV.out ⟨Or.inr HSV.out, ?_⟩)
                refine wpAnyT_run 11 (some 233) (.pointer (some ⟨G.B, G.O + e.b * 49, none⟩)) V2.drew (by kernel_rfl) rfl rfl rfl (run_nil rfl (by simp [eval_same, eval_ne, put_size, hsz, e16, e31, e32])) (Or.inr HSV.out) ?_
                refine wpAnyT_run 12 (some 234) (.pointer (some ⟨G.B, G.O + e.b * 49 + 3, none⟩)) V2.drew (by kernel_rfl) rfl rfl rfl (run_field rfl (by simp [eval_same, eval_ne, put_size, hsz, e16, e31, e32]) (field48_3 _ _ _)) (Or.inr HSV.out) ?_
                refine wpAnyT_store 13 41 _ _ (.pointer (some ⟨G.B, G.O + e.b * 49 + 3, none⟩)) (.slice (some ⟨G.N + 3 * e.b, 0, none⟩) (m + 1) c) (V2.setCell ⟨G.B, G.O + e.b * 49 + 3, none⟩ (.slice (some ⟨G.N + 3 * e.b, 0, none⟩) (m + 1) c)).drew (by kernel_rfl) rfl rfl rfl rfl (by simp [eval_same, eval_ne, put_size, hsz, e16, e31, e32]) (by simp [eval_same, eval_ne, put_size, hsz, e16, e31, e32]) (store41 _ _ _ _ _ V2.drew _ q3 k3) (Or.inl rfl) ?_
                refine wpAnyT_done (by kernel_rfl) ?_ _
                rw [ha]
                simp only [Act.put, List.setIfInBounds_toArray, List.set_cons_zero, List.set_cons_succ]
                go_wp2
                go_meet
                case rel => exact HP.out
              case rest => as_aux_lemma =>
                obtain ⟨W2, rfl⟩ : ∃ x : World, x = wc := ⟨wc, rfl⟩
                have HF5 := hide hcut
                clear hcut HF2
                go_upto_region 57 with fail
                go_cut [235] from 235 to 249 (fun _ wx => Full w wx sf k rl L own true G G.d (L.take j ++ [e]) (L.take j ++ [e]) (L.take j) (L.take j))
                case first => as_aux_lemma =>
                  have hbk := HF5.out.bk e.b hbd
                  have hc4 := hbk.c4
                  have hlen := HLs.out.2.2.2.2
                  have HKA := hide (HF5.out.tab.lay.keys j e HLs.out.2.2.2.1)
                  have f4 : W2.frozen? ⟨G.B, G.O + e.b * 49 + 4, none⟩ = false := by
                    have := (HF5.out.tab.tBk (e.b * 49 + 4) (by omega)).2
                    rw [← Nat.add_assoc] at this; exact this
                  have hlts := HF5.out.tab.lt
                  have hsz := HF5.out.sz
                  have hBl : G.B < W2.heap.size := by omega
                  have hgl : G.N + 3 * e.b + 1 < W2.heap.size := by omega
                  have HT : Hid ((W2.drew.alloc (.cells (kcells e.key) 29)).there (G.N + 3 * e.b + 1) 0 ((inB e.b L).length * 32)) := by
                    have : (W2.drew.alloc (.cells (kcells e.key) 29)).there (G.N + 3 * e.b + 1) 0 ((inB e.b L).length * 32) := there_below hbk.tK ((Below.refl _ _).drew.alloc (Nat.le_refl _) _) hgl
                    exact this
                  have HRG : Hid ((W2.drew.alloc (.cells (kcells e.key) 29)).rangeAt W2.heap.size 0 (kcells e.key).toList) := by
                    have : (W2.drew.alloc (.cells (kcells e.key) 29)).rangeAt W2.heap.size 0 (kcells e.key).toList := range_new W2.drew _ _
                    exact this
                  have hks : (kcells e.key).size = 32 := by rw [kcells_size, HLs.out.2.2.1.len]
                  clear hbk hlts hsz
                  obtain ⟨m, hm⟩ : ∃ m, (inB e.b (L.take j)).length = m := ⟨_, rfl⟩
                  obtain ⟨c, hc⟩ : ∃ c, (inB e.b L).length = c := ⟨_, rfl⟩
                  rw [hm, hc] at hc4 hlen
                  rw [hc] at HT
                  have HMC := hide (And.intro hm hc)
                  clear hm hc
                  obtain ⟨V2, hV2⟩ : ∃ x, x = (W2.alloc (.cells (kcells e.key) 29)).setCells (G.N + 3 * e.b + 1) (m * 32) (kcells e.key).toList := ⟨_, rfl⟩
                  have HVV : Hid ((W2.drew.alloc (.cells (kcells e.key) 29)).setCells (G.N + 3 * e.b + 1) (m * 32) (kcells e.key).toList = V2.drew) := by
                    have : (W2.drew.alloc (.cells (kcells e.key) 29)).setCells (G.N + 3 * e.b + 1) (m * 32) (kcells e.key).toList = V2.drew := by
                      rw [hV2, ← setCells_drew]; rfl
                    exact this
                  have g2 : Off (G.B + 1) (fun x o => x = G.N + 3 * e.b + 1) W2 V2 := by
                    rw [hV2]; exact (Off.alloc _ _).trans ((Off.setCells _ _ _ _ _).mono (fun _ _ q => q.1))
                  have hne : ¬ G.B = G.N + 3 * e.b + 1 := by have := HF5.out.tab.lt; omega
                  have q4 : V2.cell? ⟨G.B, G.O + e.b * 49 + 4, none⟩ = some (.slice (some ⟨G.N + 3 * e.b + 1, 0, none⟩) m c) := (g2.cell _ _ hBl hne).trans hc4
                  have k4 : V2.frozen? ⟨G.B, G.O + e.b * 49 + 4, none⟩ = false := (g2.frz _ _ hBl hne).trans f4
                  have hr3 : w.heap.size + 3 < W2.heap.size := by have := HF5.out.tab.lay.sz; omega
                  have HSA : Hid ((W2.drew.alloc (.cells (kcells e.key) 29)).cell? ⟨G.B, G.O + e.b * 49 + 4, none⟩ = some (.slice (some ⟨G.N + 3 * e.b + 1, 0, none⟩) m c) ∧ KeyAt (W2.drew.alloc (.cells (kcells e.key) 29)) (w.heap.size + 3) (j * 32) e.key) := by
                    have hb : Below W2.heap.size W2 (W2.drew.alloc (.cells (kcells e.key) 29)) := (Below.refl _ _).drew.alloc (Nat.le_refl _) _
                    exact ⟨(hb.cell (p := ⟨G.B, G.O + e.b * 49 + 4, none⟩) hBl).trans hc4, HKA.out.below hb hr3⟩
                  have HSV : Hid (V2.drew.cell? ⟨G.B, G.O + e.b * 49 + 4, none⟩ = some (.slice (some ⟨G.N + 3 * e.b + 1, 0, none⟩) m c) ∧ KeyAt V2.drew (w.heap.size + 3) (j * 32) e.key) := by
                    refine And.intro q4 ?_
                    exact KeyAt.below (g2.range HKA.out hr3 (fun jj _ hh => by have := HF5.out.tab.lay.sz; have := HF5.out.tab.ge; have := HF5.out.tab.lt; omega)) (Below.refl (w.heap.size + 4) V2).drew (by omega)
                  have HP : Hid (Full w (V2.setCell ⟨G.B, G.O + e.b * 49 + 4, none⟩ (.slice (some ⟨G.N + 3 * e.b + 1, 0, none⟩) (m + 1) c)).drew sf k rl L own true G G.d (L.take j ++ [e]) (L.take j ++ [e]) (L.take j) (L.take j)) := by
                    have hp := (HF5.out.keep ((Below.refl _ _).alloc (Nat.le_refl _) (.cells (kcells e.key) 29))).putK e hbd HLs.out.2.2.2.2 HLs.out.2.2.1 (fun x hx => by
                      obtain ⟨i, hi, rfl⟩ := List.getElem_of_mem (List.mem_of_mem_take hx)
                      exact HWF.out.isKey i _ (List.getElem?_eq_getElem hi))
                    rw [HMC.out.1, HMC.out.2, ← hV2] at hp
                    exact hp.keep (Below.refl _ _).drew
                  clear hV2 g2 f4 HMC HF5
                  refine wp_region_T 15 16 (fun W => W.cell? ⟨G.B, G.O + e.b * 49 + 4, none⟩ = some (.slice (some ⟨G.N + 3 * e.b + 1, 0, none⟩) m c) ∧ KeyAt W (w.heap.size + 3) (j * 32) e.key) (by kernel_rfl) (by kernel_rfl) ?_
                  intro a ha
                  have e13 : a.eval (.tmp 13) = .slice (some ⟨w.heap.size + 3, 0, none⟩) L.length rl := by rw [ha]; rfl
                  have e31 : a.eval (.tmp 31) = .int .i64 (j : Int) := by rw [ha]; rfl
                  have e32 : a.eval (.tmp 32) = .pointer (some ⟨G.B, G.O + e.b * 49, none⟩) := by rw [ha]; rfl
                  have hsz : a.tmps.size = 390 := by rw [ha]; rfl
                  have hS : W2.drew.cell? ⟨G.B, G.O + e.b * 49 + 4, none⟩ = some (.slice (some ⟨G.N + 3 * e.b + 1, 0, none⟩) m c) ∧ KeyAt W2.drew (w.heap.size + 3) (j * 32) e.key := ⟨hc4, HKA.out.below (Below.refl W2.heap.size W2).drew hr3⟩
                  refine wpAnyT_take 0 (some 235) (.pointer (some ⟨G.B, G.O + e.b * 49, none⟩)) rfl rfl (by kernel_rfl) (by kernel_rfl) (by kernel_rfl) (by kernel_rfl) (fun _ _ _ h => h) hS (yi_run rfl (fun W hW => run_move rfl (by simp [eval_same, eval_ne, put_size, hsz, e13, e31, e32]))) ?_
                  refine wpAnyT_take 1 (some 236) (.pointer (some ⟨G.B, G.O + e.b * 49, none⟩)) rfl rfl (by kernel_rfl) (by kernel_rfl) (by kernel_rfl) (by kernel_rfl) (fun _ _ _ h => h) hS (yi_run rfl (fun W hW => run_move rfl (by simp [eval_same, eval_ne, put_size, hsz, e13, e31, e32]))) ?_
                  refine wpAnyT_take 2 (some 237) (.pointer (some ⟨G.B, G.O + e.b * 49, none⟩)) rfl rfl (by kernel_rfl) (by kernel_rfl) (by kernel_rfl) (by kernel_rfl) (fun _ _ _ h => h) hS (yi_run rfl (fun W hW => run_nil rfl (by simp [eval_same, eval_ne, put_size, hsz, e13, e31, e32]))) ?_
                  refine wpAnyT_take 3 (some 238) (.pointer (some ⟨G.B, G.O + e.b * 49 + 4, none⟩)) rfl rfl (by kernel_rfl) (by kernel_rfl) (by kernel_rfl) (by kernel_rfl) (fun _ _ _ h => h) hS (yi_run rfl (fun W hW => run_field rfl (by simp [eval_same, eval_ne, put_size, hsz, e13, e31, e32]) (field48_4 _ _ W))) ?_
                  refine wpAnyT_take 4 (some 239) (.pointer (some ⟨G.B, G.O + e.b * 49 + 4, none⟩)) rfl rfl (by kernel_rfl) (by kernel_rfl) (by kernel_rfl) (by kernel_rfl) (fun _ _ _ h => h) hS (yi_run rfl (fun W hW => run_field rfl (by simp [eval_same, eval_ne, put_size, hsz, e13, e31, e32]) (field43_0 _ _ W))) ?_
                  refine wpAnyT_take 5 (some 240) (.slice (some ⟨G.N + 3 * e.b + 1, 0, none⟩) m c) rfl rfl (by kernel_rfl) (by kernel_rfl) (by kernel_rfl) (by kernel_rfl) (fun _ _ _ h => h) hS (yi_run rfl (fun W hW => run_load rfl (by simp [eval_same, eval_ne, put_size, hsz, e13, e31, e32]) (load35 _ _ _ _ _ W hW.1))) ?_
                  refine wpAnyT_take 6 (some 241) (.slice (some ⟨w.heap.size + 3, 0, none⟩) L.length rl) rfl rfl (by kernel_rfl) (by kernel_rfl) (by kernel_rfl) (by kernel_rfl) (fun _ _ _ h => h) hS (yi_run rfl (fun W hW => run_move rfl (by simp [eval_same, eval_ne, put_size, hsz, e13, e31, e32]))) ?_
                  refine wpAnyT_take 7 (some 242) (.int .i64 (j : Int)) rfl rfl (by kernel_rfl) (by kernel_rfl) (by kernel_rfl) (by kernel_rfl) (fun _ _ _ h => h) hS (yi_run rfl (fun W hW => run_move rfl (by simp [eval_same, eval_ne, put_size, hsz, e13, e31, e32]))) ?_
                  refine wpAnyT_take 8 (some 243) (.pointer (some ⟨w.heap.size + 3, j * 32, none⟩)) rfl rfl (by kernel_rfl) (by kernel_rfl) (by kernel_rfl) (by kernel_rfl) (fun _ _ _ h => h) hS (yi_index rfl 35 _ _ rfl (.slice (some ⟨w.heap.size + 3, 0, none⟩) L.length rl) (.int .i64 (j : Int)) _ (by simp [eval_same, eval_ne, put_size, hsz, e13, e31, e32]) (by simp [eval_same, eval_ne, put_size, hsz, e13, e31, e32]) (index35 _ _ _ j hlt)) ?_
                  refine wpAnyT_take 9 (some 244) (.agg (kcells e.key)) rfl rfl (by kernel_rfl) (by kernel_rfl) (by kernel_rfl) (by kernel_rfl) (fun _ _ _ h => h) hS (yi_load_row rfl 29 _ rfl (w.heap.size + 3) (j * 32) (by simp [eval_same, eval_ne, put_size, hsz, e13, e31, e32]) (kcells e.key) _ (fun W hW => hW.2) Yba.underlying29 rfl (by rw [Yba.size29, hks])) ?_
                  refine wpAnyT_only (i := 10) (by kernel_rfl) rfl rfl (wp_buildSlice_as (some 245) rfl 35 29 _ rfl (.agg (kcells e.key)) (by simp [eval_same, eval_ne, put_size, hsz, e13, e31, e32]) (kcells e.key) (lit35 e.key HLs.out.2.2.1) ⟨Or.inr HSA.out, ?_⟩)
                  refine wpAnyT_only (i := 11) (by kernel_rfl) rfl rfl (wp_append_at (some 246) rfl (.tmp 240) (.tmp 245) 35 29 32 rfl Yba.underlying35 Yba.size29 (G.N + 3 * e.b + 1) m c W2.heap.size (kcells e.key) (by simp [eval_same, eval_ne, put_size, hsz, e13, e31, e32]) (by simp [eval_same, eval_ne, put_size, hsz, e13, e31, e32]) hks (kcells_one e.key) hlen HRG.out HT.out V2.drew HVV.out ⟨Or.inr HSV.out, ?_⟩)
                  refine wpAnyT_run 12 (some 247) (.pointer (some ⟨G.B, G.O + e.b * 49, none⟩)) V2.drew (by kernel_rfl) rfl rfl rfl (run_nil rfl (by simp [eval_same, eval_ne, put_size, hsz, e13, e31, e32])) (Or.inr HSV.out) ?_
                  refine wpAnyT_run 13 (some 248) (.pointer (some ⟨G.B, G.O + e.b * 49 + 4, none⟩)) V2.drew (by kernel_rfl) rfl rfl rfl (run_field rfl (by simp [eval_same, eval_ne, put_size, hsz, e13, e31, e32]) (field48_4 _ _ _)) (Or.inr HSV.out) ?_
                  refine wpAnyT_run 14 (some 249) (.pointer (some ⟨G.B, G.O + e.b * 49 + 4, none⟩)) V2.drew (by kernel_rfl) rfl rfl rfl (run_field rfl (by simp [eval_same, eval_ne, put_size, hsz, e13, e31, e32]) (field43_0 _ _ _)) (Or.inr HSV.out) ?_
                  refine wpAnyT_store 15 35 _ _ (.pointer (some ⟨G.B, G.O + e.b * 49 + 4, none⟩)) (.slice (some ⟨G.N + 3 * e.b + 1, 0, none⟩) (m + 1) c) (V2.setCell ⟨G.B, G.O + e.b * 49 + 4, none⟩ (.slice (some ⟨G.N + 3 * e.b + 1, 0, none⟩) (m + 1) c)).drew (by kernel_rfl) rfl rfl rfl rfl (by simp [eval_same, eval_ne, put_size, hsz, e13, e31, e32]) (by simp [eval_same, eval_ne, put_size, hsz, e13, e31, e32]) (store35 _ _ _ _ _ V2.drew _ q4 k4) (Or.inl rfl) ?_
                  refine wpAnyT_done (by kernel_rfl) ?_ _
                  rw [ha]
                  simp only [Act.put, List.setIfInBounds_toArray, List.set_cons_zero, List.set_cons_succ]
                  go_wp2
                  go_meet
                  case rel => exact HP.out
                case rest => as_aux_lemma =>
                  obtain ⟨W3, rfl⟩ : ∃ x : World, x = wc := ⟨wc, rfl⟩
                  have HF6 := hide hcut
                  clear hcut HF5
                  have hbk := HF6.out.bk e.b hbd
                  have hc5 := hbk.c5
                  have hlen := HLs.out.2.2.2.2
                  have f5 : W3.frozen? ⟨G.B, G.O + e.b * 49 + 5, none⟩ = false := by
                    have := (HF6.out.tab.tBk (e.b * 49 + 5) (by omega)).2
                    rw [← Nat.add_assoc] at this; exact this
                  have hlts := HF6.out.tab.lt
                  have hsz := HF6.out.sz
                  have hBl : G.B < W3.heap.size := by omega
                  have hgl : G.N + 3 * e.b + 2 < W3.heap.size := by omega
                  have HT : Hid ((W3.alloc (.cells #[.int .u64 (hv : Int)] 22)).there (G.N + 3 * e.b + 2) 0 ((inB e.b L).length * 1)) := by
                    have : (W3.alloc (.cells #[.int .u64 (hv : Int)] 22)).there (G.N + 3 * e.b + 2) 0 ((inB e.b L).length * 1) := there_below hbk.tH ((Below.refl _ _).alloc (Nat.le_refl _) _) hgl
                    exact this
                  have HRG : Hid ((W3.alloc (.cells #[.int .u64 (hv : Int)] 22)).rangeAt W3.heap.size 0 (#[.int .u64 (hv : Int)] : Array Value).toList) := by
                    have : (W3.alloc (.cells #[.int .u64 (hv : Int)] 22)).rangeAt W3.heap.size 0 (#[.int .u64 (hv : Int)] : Array Value).toList := range_new W3 _ _
                    exact this
                  clear hbk hlts hsz
                  obtain ⟨m, hm⟩ : ∃ m, (inB e.b (L.take j)).length = m := ⟨_, rfl⟩
                  obtain ⟨c, hc⟩ : ∃ c, (inB e.b L).length = c := ⟨_, rfl⟩
                  rw [hm, hc] at hc5 hlen
                  rw [hc] at HT
                  have HMC := hide (And.intro hm hc)
                  clear hm hc
                  obtain ⟨V2, hV2⟩ : ∃ x, x = (W3.alloc (.cells #[.int .u64 (hv : Int)] 22)).setCells (G.N + 3 * e.b + 2) (m * 1) (#[.int .u64 (hv : Int)] : Array Value).toList := ⟨_, rfl⟩
                  have HVV := hide hV2.symm
                  have g2 : Off (G.B + 1) (fun x o => x = G.N + 3 * e.b + 2) W3 V2 := by
                    rw [hV2]; exact (Off.alloc _ _).trans ((Off.setCells _ _ _ _ _).mono (fun _ _ q => q.1))
                  have hne : ¬ G.B = G.N + 3 * e.b + 2 := by have := HF6.out.tab.lt; omega
                  have q5 : V2.cell? ⟨G.B, G.O + e.b * 49 + 5, none⟩ = some (.slice (some ⟨G.N + 3 * e.b + 2, 0, none⟩) m c) := (g2.cell _ _ hBl hne).trans hc5
                  have k5 : V2.frozen? ⟨G.B, G.O + e.b * 49 + 5, none⟩ = false := (g2.frz _ _ hBl hne).trans f5
                  have HSt := hide (store40 G.B (G.O + e.b * 49 + 5) (some ⟨G.N + 3 * e.b + 2, 0, none⟩) (m + 1) c V2 _ q5 k5)
                  have HP : Hid (Full w (V2.setCell ⟨G.B, G.O + e.b * 49 + 5, none⟩ (.slice (some ⟨G.N + 3 * e.b + 2, 0, none⟩) (m + 1) c)) sf k rl L own true G G.d (L.take j ++ [e]) (L.take j ++ [e]) (L.take j ++ [e]) (L.take j)) := by
                    have hp := (HF6.out.keep ((Below.refl _ _).alloc (Nat.le_refl _) (.cells #[.int .u64 (hv : Int)] 22))).putH e hbd HLs.out.2.2.2.2
                    have hhe : headV e = .int .u64 (hv : Int) := by unfold headV; rw [HHV.out]
                    rw [HMC.out.1, HMC.out.2, hhe] at hp
                    rw [hV2]; exact hp
                  clear hV2 g2 f5 HF6 q5 k5 hne
                  go_upto_region 59 with (first | (with_reducible refine wpList_buildSlice_as rfl 40 22 _ rfl (.int .u64 (hv : Int)) (by kernel_rfl) #[.int .u64 (hv : Int)] (lit40 _) ?_) | (with_reducible refine wpList_append_at rfl _ _ 40 22 1 rfl Yba.underlying40 Yba.size22 (G.N + 3 * e.b + 2) m c W3.heap.size #[.int .u64 (hv : Int)] (by kernel_rfl) (by kernel_rfl) (by kernel_rfl) (by kernel_rfl) hlen HRG.out HT.out V2 HVV.out ?_) | (with_reducible refine wpList_store_as rfl 40 _ _ rfl (.pointer (some ⟨G.B, G.O + e.b * 49 + 5, none⟩)) (.slice (some ⟨G.N + 3 * e.b + 2, 0, none⟩) (m + 1) c) (by kernel_rfl) (by kernel_rfl) HSt.out ?_))
                  clear hc5 HSt HVV HRG HT
                  obtain ⟨W4, hW4⟩ : ∃ x, x = V2.setCell ⟨G.B, G.O + e.b * 49 + 5, none⟩ (.slice (some ⟨G.N + 3 * e.b + 2, 0, none⟩) (m + 1) c) := ⟨_, rfl⟩
                  rw [← hW4]
                  have HF7 : Hid (Full w W4 sf k rl L own true G G.d (L.take j ++ [e]) (L.take j ++ [e]) (L.take j ++ [e]) (L.take j)) := by
                    rw [hW4]; exact HP.out
                  clear hW4 HP
                  cases own with
                  | false =>
                    go_wp2
                    go_roundg (L.length - (j + 1))
                    case measure => omega
                    case rel => exact ⟨j + 1, by go_num, by omega, Nat.le_refl _, by rw [HLs.out.1]; exact HF7.out.skipO e⟩
                  | true =>
                    have hfew : ∀ b, (inB b (L.take j ++ [e])).length ≤ 20 := fun b => by
                      have h1 := HWF.out.2 rfl b
                      have h2 : (inB b (L.take j ++ [e])).length ≤ (inB b L).length := by
                        rw [← HLs.out.1]
                        exact (List.Sublist.filter _ (List.take_sublist _ _)).length_le
                      omega
                    have hp20 : e.pos < 40 := by
                      have := hfew e.b
                      rw [len_self] at this
                      rw [HLs.out.2.1]; omega
                    have hps := HF7.out.tab.lay.poss j e HLs.out.2.2.2.1
                    have hqc : ∃ u, W4.cell? ⟨G.B, G.O + e.b * 49 + 9 + e.pos, none⟩ = some u ∧ W4.frozen? ⟨G.B, G.O + e.b * 49 + 9 + e.pos, none⟩ = false := by
                      have := HF7.out.tab.tBk (e.b * 49 + 9 + e.pos) (by omega)
                      rw [← Nat.add_assoc, ← Nat.add_assoc] at this
                      obtain ⟨u, hu⟩ := Option.isSome_iff_exists.1 this.1
                      exact ⟨u, hu, this.2⟩
                    obtain ⟨u9, d9, f9⟩ := hqc
                    have HP : Hid (Full w (W4.setCell ⟨G.B, G.O + e.b * 49 + 9 + e.pos, none⟩ (.int .u64 (hv : Int))).drew sf k rl L true true G G.d (L.take (j + 1)) (L.take (j + 1)) (L.take (j + 1)) (L.take (j + 1))) := by
                      have hp := HF7.out.putO e hbd (fun _ => hfew) rfl
                      have hhe : headV e = .int .u64 (hv : Int) := by unfold headV; rw [HHV.out]
                      rw [hhe, ← HLs.out.2.1, ← HLs.out.1] at hp
                      exact hp.keep (Below.refl _ _).drew
                    clear hfew HF7
                    go_upto_region 60 with fail
                    refine wp_region_T 9 10 (fun W => W.cell? ⟨w.heap.size + 5, j, none⟩ = some (.int .i64 (e.pos : Int))) (by kernel_rfl) (by kernel_rfl) ?_
                    intro a ha
                    have e15 : a.eval (.tmp 15) = .slice (some ⟨w.heap.size + 5, 0, none⟩) L.length rl := by rw [ha]; rfl
                    have e31 : a.eval (.tmp 31) = .int .i64 (j : Int) := by rw [ha]; rfl
                    have e32 : a.eval (.tmp 32) = .pointer (some ⟨G.B, G.O + e.b * 49, none⟩) := by rw [ha]; rfl
                    have e33 : a.eval (.tmp 33) = .int .u64 (hv : Int) := by rw [ha]; rfl
                    have hsz : a.tmps.size = 390 := by rw [ha]; rfl
                    have hS : W4.drew.cell? ⟨w.heap.size + 5, j, none⟩ = some (.int .i64 (e.pos : Int)) := hps
                    refine wpAnyT_take 0 (some 263) (.pointer (some ⟨G.B, G.O + e.b * 49, none⟩)) rfl rfl (by kernel_rfl) (by kernel_rfl) (by kernel_rfl) (by kernel_rfl) (fun _ _ _ h => h) hS (yi_run rfl (fun W hW => run_move rfl (by simp [eval_same, eval_ne, put_size, hsz, e15, e31, e32, e33]))) ?_
                    refine wpAnyT_take 1 (some 264) (.slice (some ⟨w.heap.size + 5, 0, none⟩) L.length rl) rfl rfl (by kernel_rfl) (by kernel_rfl) (by kernel_rfl) (by kernel_rfl) (fun _ _ _ h => h) hS (yi_run rfl (fun W hW => run_move rfl (by simp [eval_same, eval_ne, put_size, hsz, e15, e31, e32, e33]))) ?_
                    refine wpAnyT_take 2 (some 265) (.int .i64 (j : Int)) rfl rfl (by kernel_rfl) (by kernel_rfl) (by kernel_rfl) (by kernel_rfl) (fun _ _ _ h => h) hS (yi_run rfl (fun W hW => run_move rfl (by simp [eval_same, eval_ne, put_size, hsz, e15, e31, e32, e33]))) ?_
                    refine wpAnyT_take 3 (some 266) (.pointer (some ⟨w.heap.size + 5, j, none⟩)) rfl rfl (by kernel_rfl) (by kernel_rfl) (by kernel_rfl) (by kernel_rfl) (fun _ _ _ h => h) hS (yi_index rfl 56 _ _ rfl (.slice (some ⟨w.heap.size + 5, 0, none⟩) L.length rl) (.int .i64 (j : Int)) _ (by simp [eval_same, eval_ne, put_size, hsz, e15, e31, e32, e33]) (by simp [eval_same, eval_ne, put_size, hsz, e15, e31, e32, e33]) (index56 _ _ _ j hlt)) ?_
                    refine wpAnyT_take 4 (some 267) (.int .i64 (e.pos : Int)) rfl rfl (by kernel_rfl) (by kernel_rfl) (by kernel_rfl) (by kernel_rfl) (fun _ _ _ h => h) hS (yi_run rfl (fun W hW => run_load rfl (by simp [eval_same, eval_ne, put_size, hsz, e15, e31, e32, e33]) (load3 _ _ _ W hW))) ?_
                    refine wpAnyT_take 5 (some 268) (.int .u64 (hv : Int)) rfl rfl (by kernel_rfl) (by kernel_rfl) (by kernel_rfl) (by kernel_rfl) (fun _ _ _ h => h) hS (yi_run rfl (fun W hW => run_move rfl (by simp [eval_same, eval_ne, put_size, hsz, e15, e31, e32, e33]))) ?_
                    refine wpAnyT_run 6 (some 269) (.pointer (some ⟨G.B, G.O + e.b * 49, none⟩)) W4.drew (by kernel_rfl) rfl rfl rfl (run_nil rfl (by simp [eval_same, eval_ne, put_size, hsz, e15, e31, e32, e33])) (Or.inr hS) ?_
                    refine wpAnyT_run 7 (some 270) (.pointer (some ⟨G.B, G.O + e.b * 49 + 9, none⟩)) W4.drew (by kernel_rfl) rfl rfl rfl (run_field rfl (by simp [eval_same, eval_ne, put_size, hsz, e15, e31, e32, e33]) (field48_6 _ _ _)) (Or.inr hS) ?_
                    refine wpAnyT_run 8 (some 271) (.pointer (some ⟨G.B, G.O + e.b * 49 + 9 + e.pos, none⟩)) W4.drew (by kernel_rfl) rfl rfl rfl (run_index (u := .pointer (some ⟨G.B, G.O + e.b * 49 + 9, none⟩)) (v := .int .i64 (e.pos : Int)) rfl (by simp [eval_same, eval_ne, put_size, hsz, e15, e31, e32, e33]) (by simp [eval_same, eval_ne, put_size, hsz, e15, e31, e32, e33]) (index46 _ _ _ hp20 _)) (Or.inr hS) ?_
                    refine wpAnyT_store 9 22 _ _ (.pointer (some ⟨G.B, G.O + e.b * 49 + 9 + e.pos, none⟩)) (.int .u64 (hv : Int)) (W4.setCell ⟨G.B, G.O + e.b * 49 + 9 + e.pos, none⟩ (.int .u64 (hv : Int))).drew (by kernel_rfl) rfl rfl rfl rfl (by simp [eval_same, eval_ne, put_size, hsz, e15, e31, e32, e33]) (by simp [eval_same, eval_ne, put_size, hsz, e15, e31, e32, e33]) (store22 _ _ _ W4.drew _ d9 f9) (Or.inl rfl) ?_
                    refine wpAnyT_done (by kernel_rfl) ?_ _
                    rw [ha]
                    simp only [Act.put, List.setIfInBounds_toArray, List.set_cons_zero, List.set_cons_succ]
                    go_wp2
                    go_roundg (L.length - (j + 1))
                    case measure => omega
                    case rel => exact ⟨j + 1, by go_num, by omega, Nat.le_refl _, HP.out⟩
            · obtain rfl : j = L.length := by omega
              rw [List.take_length] at hF
              have HFj := hide hF
              clear hF
              go_wp2
              go_meet
              case rel => exact HFj.out
        case rest => as_aux_lemma =>
          obtain ⟨W7, rfl⟩ : ∃ x : World, x = wc := ⟨wc, rfl⟩
          have HF8 := hide hcut
          clear hcut HF3
          have hLl : L.length ≤ 65536 := by omega
          have hen := entry_full HF8.out hLl HWF.out HK.out.1 HK.out.2 HBN.out
          unfold keyV at hen
          go_upto_region 62 with (first | (with_reducible refine wpList_load_key rfl _ rfl (w.heap.size + 2) 0 (by kernel_rfl) k HF8.out.tab.lay.k2 HK.out.2 ?_) | (go_at_call 10; refine hen.mono ?_; rintro e1 W8 ⟨r, rfl, hr, hF9, hk0, hk1⟩; obtain ⟨E, ok, hE, hEs, hE1, hEn, hEy⟩ := entryR_form ((inB (cplN sf k) L).map Ent.key) ((inB (cplN sf k) L).map Ent.rc) k G.wl G.ex r HK.out.2; rw [hE]) | (with_reducible refine wpList_alloc72 rfl rfl ?_) | (with_reducible refine wpList_store_last rfl 72 _ _ rfl W8.heap.size _ E (by kernel_rfl) (by rfl) (by kernel_rfl) 41 Yba.size72 hEs ent0_size hE1 ?_))
          have hb9 : Below W8.heap.size W8 (W8.alloc (.cells E 72)) := (Below.refl _ _).alloc (Nat.le_refl _) _
          have hF10 := hF9.keep hb9
          have hll : G.l < W8.heap.size := by have := hF9.tab.lt; omega
          have hl0 : (W8.alloc (.cells E 72)).cell? ⟨G.l, 0, none⟩ = some (.int .i64 1) := (hb9.cell (p := ⟨G.l, 0, none⟩) hll).trans hk0
          have hl1 : (W8.alloc (.cells E 72)).cell? ⟨G.l, 1, none⟩ = some (.int .i64 1) := (hb9.cell (p := ⟨G.l, 1, none⟩) hll).trans hk1
          have hrow := heap_alloc_new W8 (.cells E 72)
          obtain ⟨W9, hW9⟩ : ∃ x, x = W8.alloc (.cells E 72) := ⟨_, rfl⟩
          rw [← hW9] at hF10 hl0 hl1 hrow ⊢
          have hw89 : W8.heap.size < W9.heap.size := by rw [hW9]; simp
          have HF10 := hide hF10
          have HE := hide (And.intro hrow (And.intro hEs (And.intro hr (And.intro hEn hEy))))
          clear hb9 hF10 hF9 hk0 hk1 hW9 hE hE1 hEs hEn hEy hr hen HF8 hrow hll
          go_upto_block 7 with fail
          clear hl0 hl1
          go_cut [36, 37] from 278 to 337 (fun _ _ wx => Below W9.heap.size W9 wx)
          case first => as_aux_lemma =>
            go_wp2_with fail
            go_loopg [36, 37] L.length (fun g jv _ wr => ∃ j : Nat, jv = .int .i64 (j : Int) ∧ j ≤ L.length ∧ L.length - j ≤ g ∧ Below W9.heap.size W9 wr)
            case atStart => exact ⟨0, rfl, Nat.zero_le _, Nat.le_refl _, Below.refl _ _⟩
            case round =>
              obtain ⟨j, rfl, hj, hgh, hbw⟩ := hrel
              by_cases hlt : j < L.length
              · obtain ⟨e, he⟩ : ∃ e, L[j]? = some e := ⟨L[j], List.getElem?_eq_getElem hlt⟩
                have hsp : L = L.take j ++ e :: L.drop (j + 1) := by
                  have : L[j] = e := (List.getElem?_eq_some_iff.1 he).2
                  rw [← this, List.getElem_cons_drop, List.take_append_drop]
                obtain ⟨hp, hcb, hik⟩ := HWF.out.1 _ _ _ hsp
                have hF := HF10.out.keep hbw
                have hbd : e.b < G.d := by rw [hF.tab.dd]; exact depthE_le L e (List.mem_of_getElem? he)
                have hin := inB_at HWF.out hsp
                have hge : (inB e.b L)[e.pos]? = some e := by
                  rw [hin, hp, List.getElem?_append_right (Nat.le_refl _), Nat.sub_self]; rfl
                have hpl := (List.getElem?_eq_some_iff.1 hge).1
                have hcl : (inB e.b L).length ≤ 65536 := by
                  have : (inB e.b L).length ≤ L.length := List.length_filter_le _ _
                  omega
                have c34 := hF.tab.c34
                have hbk := hF.tab.lay.bks j e he
                have hd257 := hF.tab.d2
                have HIK := hide hik
                have HZ : Hid (∀ W, Below W9.heap.size W9 W → W.cell? ⟨w.heap.size + 5, j, none⟩ = some (.int .i64 (e.pos : Int)) ∧ W.cell? ⟨G.B, G.O + e.b * 49 + 3, none⟩ = some (.slice (some ⟨G.N + 3 * e.b, 0, none⟩) (inB e.b L).length (inB e.b L).length) ∧ W.cell? ⟨G.B, G.O + e.b * 49 + 4, none⟩ = some (.slice (some ⟨G.N + 3 * e.b + 1, 0, none⟩) (inB e.b L).length (inB e.b L).length) ∧ RecAt W (G.N + 3 * e.b) (e.pos * 8) e.rc ∧ KeyAt W (G.N + 3 * e.b + 1) (e.pos * 32) e.key ∧ RecAt W (w.heap.size + 6) (j * 8) e.rc ∧ KeyAt W (w.heap.size + 3) (j * 32) e.key) := by
                  intro W hb
                  have hf := HF10.out.keep hb
                  have hB := hf.bk e.b hbd
                  exact ⟨hf.tab.lay.poss j e he, hB.c3, hB.c4, hB.recs _ _ hge, hB.keys _ _ hge, hf.tab.lay.recs j e he, hf.tab.lay.keys j e he⟩
                have HBW := hide hbw
                clear hF hsp hp hcb hik he hin hge hbw
                generalize (inB e.b L).length = c at *
                go_upto_region 67 with fail
                go_quiet (fail)
                obtain ⟨W1, hW1⟩ : ∃ x, x = wr.drewN nq := ⟨_, rfl⟩
                have hb1 : Below W9.heap.size W9 W1 := by rw [hW1]; exact HBW.out.trans (below_drewN wr nq _)
                rw [← hW1]
                clear hW1 c34 hbk
                have HB1 := hide hb1
                have hC : ∀ z : Past W9.heap.size W1, z.val.cell? ⟨w.heap.size + 5, j, none⟩ = some (.int .i64 (e.pos : Int)) := fun z => (HZ.out _ (HB1.out.trans z.bel)).1
                have hC3 : ∀ z : Past W9.heap.size W1, z.val.cell? ⟨G.B, G.O + e.b * 49 + 3, none⟩ = some (.slice (some ⟨G.N + 3 * e.b, 0, none⟩) c c) := fun z => (HZ.out _ (HB1.out.trans z.bel)).2.1
                have hC4 : ∀ z : Past W9.heap.size W1, z.val.cell? ⟨G.B, G.O + e.b * 49 + 4, none⟩ = some (.slice (some ⟨G.N + 3 * e.b + 1, 0, none⟩) c c) := fun z => (HZ.out _ (HB1.out.trans z.bel)).2.2.1
                have HR1 : Hid (∀ W, (∃ z : Past W9.heap.size W1, W = z.val) → RecAt W (G.N + 3 * e.b) (e.pos * 8) e.rc) := by
                  rintro W ⟨z, rfl⟩; exact (HZ.out _ (HB1.out.trans z.bel)).2.2.2.1
                have HR2 : Hid (∀ W, (∃ z : Past W9.heap.size W1, W = z.val) → RecAt W (w.heap.size + 6) (j * 8) e.rc) := by
                  rintro W ⟨z, rfl⟩; exact (HZ.out _ (HB1.out.trans z.bel)).2.2.2.2.2.1
                have HK1 : Hid (∀ W, (∃ z : Past W9.heap.size W1, W = z.val) → KeyAt W (G.N + 3 * e.b + 1) (e.pos * 32) e.key) := by
                  rintro W ⟨z, rfl⟩; exact (HZ.out _ (HB1.out.trans z.bel)).2.2.2.2.1
                have HK2 : Hid (∀ W, (∃ z : Past W9.heap.size W1, W = z.val) → KeyAt W (w.heap.size + 3) (j * 32) e.key) := by
                  rintro W ⟨z, rfl⟩; exact (HZ.out _ (HB1.out.trans z.bel)).2.2.2.2.2.2
                have n64 := neq64 e.rc
                have n29 := neq29 e.key HIK.out
                have hnz := Past.some W9.heap.size W1
                clear hb1 HZ
                go_upto_region 68 with fail
                refine past_world W9.heap.size (by kernel_rfl) (by kernel_rfl) ?_
                repeat (first | (go_big_quiet_want; refine quiet_load_rec _ rfl (G.N + 3 * e.b) (e.pos * 8) rfl e.rc HR1.out ?_; go_simp; go_big_quiet_on) | (go_big_quiet_want; refine quiet_load_rec _ rfl (w.heap.size + 6) (j * 8) rfl e.rc HR2.out ?_; go_simp; go_big_quiet_on) | (go_big_quiet_want; refine quiet_load_key _ rfl (G.N + 3 * e.b + 1) (e.pos * 32) rfl e.key HK1.out HIK.out ?_; go_simp; go_big_quiet_on) | (go_big_quiet_want; refine quiet_load_key _ rfl (w.heap.size + 3) (j * 32) rfl e.key HK2.out HIK.out ?_; go_simp; go_big_quiet_on) | go_big_quiet_step (fail))
                refine wpQuiet_nil ?_
                rintro _ ⟨z, rfl⟩
                go_wp2
                go_roundg (L.length - (j + 1))
                case measure => omega
                case rel => exact ⟨j + 1, by go_num, by omega, Nat.le_refl _, HB1.out.trans z.bel⟩
              · have HBW := hide hbw
                clear hbw
                go_wp2
                go_meet
                case rel => exact HBW.out
          case rest => as_aux_lemma =>
            obtain ⟨W10, rfl⟩ : ∃ x : World, x = wc := ⟨wc, rfl⟩
            have HB10 := hide hcut
            clear hcut
            go_upto_block 9 with fail
            go_cut [38, 39] from 338 to 350 (fun fv _ wx => ∃ f : Int, fv = .int .i64 f ∧ Below W9.heap.size W9 wx ∧ ((f = -1 ∧ ∀ i, i < L.length → (L.map Ent.key).getD i [] ≠ k) ∨ (∃ (i : Nat) (e : Ent), f = (i : Int) ∧ L[i]? = some e ∧ e.key = k ∧ ∀ j, j < i → (L.map Ent.key).getD j [] ≠ k)))
            case first => as_aux_lemma =>
              go_wp2_with fail
              go_loopg [38, 39] L.length (fun g fv jv wr => ∃ j : Nat, fv = .int .i64 (-1) ∧ jv = .int .i64 (j : Int) ∧ j ≤ L.length ∧ L.length - j ≤ g ∧ Below W9.heap.size W9 wr ∧ ∀ i, i < j → (L.map Ent.key).getD i [] ≠ k)
              case atStart => exact ⟨0, rfl, rfl, Nat.zero_le _, Nat.le_refl _, HB10.out, fun i hi => by omega⟩
              case round =>
                obtain ⟨j, rfl, rfl, hj, hgh, hbw, hnk⟩ := hrel
                by_cases hlt : j < L.length
                · obtain ⟨e, he⟩ : ∃ e, L[j]? = some e := ⟨L[j], List.getElem?_eq_getElem hlt⟩
                  have HIK := hide (HWF.out.isKey j e he)
                  have HGD := hide (map_getD L j e he)
                  have HEJ := hide he
                  have HNK := hide hnk
                  have HBW := hide hbw
                  have HZ : Hid (∀ W, Below W9.heap.size W9 W → KeyAt W (w.heap.size + 3) (j * 32) e.key ∧ KeyAt W (w.heap.size + 2) 0 k) := by
                    intro W hb
                    have hf := HF10.out.keep hb
                    exact ⟨hf.tab.lay.keys j e he, hf.tab.lay.k2⟩
                  have HK2 : Hid (∀ W, (∃ z : Past W9.heap.size wr, W = z.val) → KeyAt W (w.heap.size + 3) (j * 32) e.key) := by
                    rintro W ⟨z, rfl⟩; exact (HZ.out _ (HBW.out.trans z.bel)).1
                  have HK3 : Hid (∀ W, (∃ z : Past W9.heap.size wr, W = z.val) → KeyAt W (w.heap.size + 2) 0 k) := by
                    rintro W ⟨z, rfl⟩; exact (HZ.out _ (HBW.out.trans z.bel)).2
                  have n29 := eql29 e.key k HIK.out HK.out.2
                  have hnz := Past.some W9.heap.size wr
                  clear hnk hbw he HZ
                  by_cases hek : e.key = k
                  · rw [decide_eq_true hek] at n29
                    have HEK := hide hek
                    clear hek
                    go_upto_region 74 with fail
                    refine past_world W9.heap.size (by kernel_rfl) (by kernel_rfl) ?_
                    repeat (first | (go_big_quiet_want; refine quiet_load_key _ rfl (w.heap.size + 3) (j * 32) rfl e.key HK2.out HIK.out ?_; go_simp; go_big_quiet_on) | (go_big_quiet_want; refine quiet_load_key _ rfl (w.heap.size + 2) 0 rfl k HK3.out HK.out.2 ?_; go_simp; go_big_quiet_on) | go_big_quiet_step (fail))
                    refine wpQuiet_nil ?_
                    rintro _ ⟨z, rfl⟩
                    go_wp2
                    go_meet
                    case rel => exact ⟨(j : Int), rfl, HBW.out.trans z.bel, Or.inr ⟨j, e, rfl, HEJ.out, HEK.out, HNK.out⟩⟩
                  · rw [decide_eq_false hek] at n29
                    have HEK := hide hek
                    clear hek
                    go_upto_region 74 with fail
                    refine past_world W9.heap.size (by kernel_rfl) (by kernel_rfl) ?_
                    repeat (first | (go_big_quiet_want; refine quiet_load_key _ rfl (w.heap.size + 3) (j * 32) rfl e.key HK2.out HIK.out ?_; go_simp; go_big_quiet_on) | (go_big_quiet_want; refine quiet_load_key _ rfl (w.heap.size + 2) 0 rfl k HK3.out HK.out.2 ?_; go_simp; go_big_quiet_on) | go_big_quiet_step (fail))
                    refine wpQuiet_nil ?_
                    rintro _ ⟨z, rfl⟩
                    go_wp2
                    go_roundg (L.length - (j + 1))
                    case measure => omega
                    case rel => exact ⟨j + 1, rfl, by go_num, by omega, Nat.le_refl _, HBW.out.trans z.bel, fun i hi => by
                      by_cases hij : i = j
                      · rw [hij, HGD.out]; exact HEK.out
                      · exact HNK.out i (by omega)⟩
                · obtain rfl : j = L.length := by omega
                  have HNK := hide hnk
                  have HBW := hide hbw
                  clear hnk hbw
                  go_wp2
                  go_meet
                  case rel => exact ⟨-1, rfl, HBW.out, Or.inl ⟨rfl, HNK.out⟩⟩
            case rest => as_aux_lemma =>
              obtain ⟨f, rfl, hb11, hfd⟩ := hcut
              obtain ⟨W11, rfl⟩ : ∃ x : World, x = wc := ⟨wc, rfl⟩
              have HB11 := hide hb11
              have hr11 : W11.heap[W8.heap.size]? = some (.cells E 72 (0, 0)) := (hb11.block _ hw89).trans HE.out.1
              have HR11 := hide hr11
              have HFN : Hid (∀ W, Below W9.heap.size W9 W → Below w.heap.size w W) := fun W hb => (HF10.out.keep hb).tab.lay.bel
              clear hb11 hr11
              rcases hfd with ⟨rfl, hnone⟩ | ⟨i, e, rfl, hei, hek, hnb⟩
              · have hr1 : r = -1 := FirstAt.unique HE.out.2.2.1 (first_none (sf := sf) (k0 := k) (own := own) (L := L) (cplN sf k) (fun j hj => hnone j (by rw [List.length_map] at hj; exact hj)))
                obtain ⟨hE0, hok⟩ := HE.out.2.2.2.1 hr1
                subst hE0
                subst hok
                clear hnone hr1
                go_wp2_with (first | (with_reducible refine wpList_load72_g _ rfl (by kernel_rfl) W8.heap.size ent0 (by kernel_rfl) HR11.out ent0_size ?_) | (with_reducible refine wpList_zero72_g rfl (by kernel_rfl) ?_) | (with_reducible refine wpList_eql72_g _ _ _ rfl (by kernel_rfl) ent0 (by kernel_rfl) (by kernel_rfl) (eql72_zero _) ?_))
                go_ret
                exact ⟨rfl, HFN.out _ HB11.out⟩
              · obtain ⟨heb, hfa, hge⟩ := first_some_at HWF.out i e hei hek hnb
                have hrp : r = (e.pos : Int) := FirstAt.unique HE.out.2.2.1 hfa
                obtain ⟨hok, hEv⟩ := HE.out.2.2.2.2 e.pos hrp
                have hpl := (List.getElem?_eq_some_iff.1 hge).1
                have hq : ((inB (cplN sf k) L).map Ent.rc).getD e.pos ⟨0, 0, 0, 0, 0, 0⟩ = e.rc := by
                  rw [getD_map_rc _ _ hpl, (List.getElem?_eq_some_iff.1 hge).2]
                rw [hq] at hEv
                have hil : i < L.length := (List.getElem?_eq_some_iff.1 hei).1
                have hqb := HBN.out e (List.mem_of_getElem? hei)
                subst hok
                have HEV := hide (And.intro hEv HE.out.2.1)
                have HRC : Hid (RecAt W11 (w.heap.size + 6) (i * 8) e.rc) := (HF10.out.keep HB11.out).tab.lay.recs i e hei
                have HTB := hide (HF10.out.keep HB11.out).tab
                clear hEv hq hge hfa heb hrp hnb hek hei hpl HE
                go_upto_region 79 with (first | (with_reducible refine wpList_load_rec rfl _ rfl (w.heap.size + 6) (i * 8) (by kernel_rfl) e.rc HRC.out ?_) | (with_reducible refine wpList_store_last rfl 64 _ _ rfl W11.heap.size _ (recC e.rc) (by kernel_rfl) (by rfl) (by kernel_rfl) 8 Yba.size64 (by kernel_rfl) (by kernel_rfl) (recC_one e.rc) ?_))
                simp only [Act.put]
                obtain ⟨W12, hW12⟩ : ∃ x, x = W11.alloc (.cells (recC e.rc) 64) := ⟨_, rfl⟩
                rw [← hW12]
                have h112 : Below W11.heap.size W11 W12 := by rw [hW12]; exact (Below.refl _ _).alloc (Nat.le_refl _) _
                have hs12 : W12.heap.size = W11.heap.size + 1 := by rw [hW12]; simp
                have hrr : RecAt W12 W11.heap.size 0 e.rc := by rw [hW12]; exact range_new _ _ _
                have hs11 := HB11.out.size
                have hlts := HTB.out.lt
                have hlsz := HTB.out.lay.sz
                have HX : Hid (∀ W, Below W12.heap.size W12 W → KeyAt W (w.heap.size + 2) 0 k ∧ (W.cell? ⟨G.eb, 0, none⟩ = some (.int .u64 (G.wl : Int)) ∧ W.cell? ⟨G.eb, 1, none⟩ = some (.int .i64 G.ex) ∧ W.cell? ⟨G.eb, 2, none⟩ = some (.pointer none)) ∧ RecAt W W11.heap.size 0 e.rc ∧ W.heap[W8.heap.size]? = some (.cells E 72 (0, 0)) ∧ Below w.heap.size w W) := by
                  intro W hb
                  have hbb : Below W11.heap.size W11 W := h112.trans (hb.mono (by omega))
                  refine And.intro (HTB.out.lay.k2.below hbb (by omega)) (And.intro (And.intro ?_ (And.intro ?_ ?_)) (And.intro (hrr.below hb (by omega)) (And.intro ?_ ?_)))
                  · exact (hbb.cell (p := ⟨G.eb, 0, none⟩) (by simp; omega)).trans HTB.out.p0
                  · exact (hbb.cell (p := ⟨G.eb, 1, none⟩) (by simp; omega)).trans HTB.out.p1
                  · exact (hbb.cell (p := ⟨G.eb, 2, none⟩) (by simp; omega)).trans HTB.out.p2
                  · exact (hbb.block _ (by omega)).trans HR11.out
                  · exact HTB.out.lay.bel.trans (hbb.mono (by omega))
                have hebl : G.eb < W12.heap.size := by omega
                have HW := hide HTB.out.wlt
                have h8l : W8.heap.size < W12.heap.size := by omega
                clear hW12 h112 hrr hs11 hlts hlsz HTB HR11 HB11 HRC
                go_cut [41] from 364 to 375 (fun p wx => ∃ g9, p = .pointer (some ⟨g9, 0, none⟩) ∧ W12.heap.size ≤ g9 ∧ Below W12.heap.size W12 wx ∧ wx.heap[g9]? = some (.cells (entC k (addN G.wl e.rc.added) (addX G.ex (addC G.wl e.rc.added)) 0 0 e.rc.lookups e.rc.closer e.rc.failed) 72 (0, 0)))
                case first => as_aux_lemma =>
                  have hadd := add_exact G.wl G.ex e.rc.added HW.out hqb.1 hqb.2.1
                  have hks : (kcells k).size = 32 := by rw [kcells_size, HK.out.2.len]
                  refine wp_region_T 13 14 (fun W => Below W12.heap.size W12 W) (by kernel_rfl) (by kernel_rfl) ?_
                  intro a ha
                  have e12 : a.eval (.tmp 12) = .pointer (some ⟨w.heap.size + 2, 0, none⟩) := by rw [ha]; rfl
                  have e26 : a.eval (.tmp 26) = .pointer (some ⟨G.eb, 0, none⟩) := by rw [ha]; rfl
                  have e40 : a.eval (.tmp 40) = .pointer (some ⟨W11.heap.size, 0, none⟩) := by rw [ha]; rfl
                  have hsz : a.tmps.size = 390 := by rw [ha]; rfl
                  have hS : Below W12.heap.size W12 W12.drew := (Below.refl _ _).drew
                  refine wpAnyT_take 0 (some 364) (.agg (kcells k)) rfl rfl (by kernel_rfl) (by kernel_rfl) (by kernel_rfl) (by kernel_rfl) (fun _ _ _ h => h) hS (yi_load_row rfl 29 _ rfl (w.heap.size + 2) 0 (by simp [eval_same, eval_ne, put_size, hsz, e12, e26, e40]) (kcells k) _ (fun W hW => (HX.out W hW).1) Yba.underlying29 rfl (by rw [Yba.size29, hks])) ?_
                  refine wpAnyT_take 1 (some 365) (timeV G.wl G.ex) rfl rfl (by kernel_rfl) (by kernel_rfl) (by kernel_rfl) (by kernel_rfl) (fun _ _ _ h => h) hS (yi_run rfl (fun W hW => run_load rfl (by simp [eval_same, eval_ne, put_size, hsz, e12, e26, e40]) (load38 G.eb 0 G.wl G.ex W (HX.out W hW).2.1.1 (HX.out W hW).2.1.2.1 (HX.out W hW).2.1.2.2))) ?_
                  refine wpAnyT_take 2 (some 366) (.pointer (some ⟨W11.heap.size, 0 + 1, none⟩)) rfl rfl (by kernel_rfl) (by kernel_rfl) (by kernel_rfl) (by kernel_rfl) (fun _ _ _ h => h) hS (yi_run rfl (fun W hW => run_field rfl (by simp [eval_same, eval_ne, put_size, hsz, e12, e26, e40]) (field64_1 _ _ W))) ?_
                  refine wpAnyT_take 3 (some 367) (.int .i64 e.rc.added) rfl rfl (by kernel_rfl) (by kernel_rfl) (by kernel_rfl) (by kernel_rfl) (fun _ _ _ h => h) hS (yi_run rfl (fun W hW => run_load rfl (by simp [eval_same, eval_ne, put_size, hsz, e12, e26, e40]) (load61 _ _ _ W ((HX.out W hW).2.2.1 1 _ rfl)))) ?_
                  refine wpAnyT_take 5 (some 369) (.pointer (some ⟨W11.heap.size, 0 + 3, none⟩)) rfl rfl (by kernel_rfl) (by kernel_rfl) (by kernel_rfl) (by kernel_rfl) (fun _ _ _ h => h) hS (yi_run rfl (fun W hW => run_field rfl (by simp [eval_same, eval_ne, put_size, hsz, e12, e26, e40]) (field64_3 _ _ W))) ?_
                  refine wpAnyT_take 6 (some 370) (.int .i64 e.rc.lookups) rfl rfl (by kernel_rfl) (by kernel_rfl) (by kernel_rfl) (by kernel_rfl) (fun _ _ _ h => h) hS (yi_run rfl (fun W hW => run_load rfl (by simp [eval_same, eval_ne, put_size, hsz, e12, e26, e40]) (load3 _ _ _ W ((HX.out W hW).2.2.1 3 _ rfl)))) ?_
                  refine wpAnyT_take 7 (some 371) (.pointer (some ⟨W11.heap.size, 0 + 4, none⟩)) rfl rfl (by kernel_rfl) (by kernel_rfl) (by kernel_rfl) (by kernel_rfl) (fun _ _ _ h => h) hS (yi_run rfl (fun W hW => run_field rfl (by simp [eval_same, eval_ne, put_size, hsz, e12, e26, e40]) (field64_4 _ _ W))) ?_
                  refine wpAnyT_take 8 (some 372) (.int .i64 e.rc.closer) rfl rfl (by kernel_rfl) (by kernel_rfl) (by kernel_rfl) (by kernel_rfl) (fun _ _ _ h => h) hS (yi_run rfl (fun W hW => run_load rfl (by simp [eval_same, eval_ne, put_size, hsz, e12, e26, e40]) (load3 _ _ _ W ((HX.out W hW).2.2.1 4 _ rfl)))) ?_
                  refine wpAnyT_take 9 (some 373) (.pointer (some ⟨W11.heap.size, 0 + 5, none⟩)) rfl rfl (by kernel_rfl) (by kernel_rfl) (by kernel_rfl) (by kernel_rfl) (fun _ _ _ h => h) hS (yi_run rfl (fun W hW => run_field rfl (by simp [eval_same, eval_ne, put_size, hsz, e12, e26, e40]) (field64_5 _ _ W))) ?_
                  refine wpAnyT_take 10 (some 374) (.int .i64 e.rc.failed) rfl rfl (by kernel_rfl) (by kernel_rfl) (by kernel_rfl) (by kernel_rfl) (fun _ _ _ h => h) hS (yi_run rfl (fun W hW => run_load rfl (by simp [eval_same, eval_ne, put_size, hsz, e12, e26, e40]) (load3 _ _ _ W ((HX.out W hW).2.2.1 5 _ rfl)))) ?_
                  refine wpAnyT_call_alloc 4 12 (some 368) (some 41) _ _ 72 #[timeV G.wl G.ex, .int .i64 e.rc.added] (timeV (addN G.wl e.rc.added) (addX G.ex (addC G.wl e.rc.added))) (.pointer (some ⟨W12.drew.heap.size, 0, none⟩)) (by kernel_rfl) rfl rfl rfl rfl rfl rfl rfl rfl (by simp [eval_same, eval_ne, put_size, hsz, e12, e26, e40]) (hadd _) (alloc72_run _) ((hS.alloc (Nat.le_refl _) _).alloc (by simp) _) (hS.alloc (Nat.le_refl _) _) ?_ ?_
                  · have hb1 : Below W12.heap.size W12 ((W12.drew.alloc (.cells #[.int .u64 (addN G.wl e.rc.added : Int), .int .i64 (addX G.ex (addC G.wl e.rc.added)), .pointer none] 38)).alloc (.cells #[.int .u64 (addN G.wl e.rc.added : Int), .int .i64 (addX G.ex (addC G.wl e.rc.added)), .pointer none] 38)) := (hS.alloc (Nat.le_refl _) _).alloc (by simp) _
                    obtain ⟨X, hX⟩ : ∃ x, x = ((W12.drew.alloc (.cells #[.int .u64 (addN G.wl e.rc.added : Int), .int .i64 (addX G.ex (addC G.wl e.rc.added)), .pointer none] 38)).alloc (.cells #[.int .u64 (addN G.wl e.rc.added : Int), .int .i64 (addX G.ex (addC G.wl e.rc.added)), .pointer none] 38)) := ⟨_, rfl⟩
                    rw [← hX] at hb1 ⊢
                    have hxs : W12.heap.size + 2 = X.heap.size := by rw [hX]; simp
                    clear hX
                    refine wpAnyT_take 11 (some 375) (.agg (entC k (addN G.wl e.rc.added) (addX G.ex (addC G.wl e.rc.added)) 0 0 e.rc.lookups e.rc.closer e.rc.failed)) rfl rfl (by kernel_rfl) (by kernel_rfl) (by kernel_rfl) (by kernel_rfl) (fun _ _ _ h => h) hb1 (yi_build_as rfl 72 _ rfl #[(0, .agg (kcells k)), (1, timeV (addN G.wl e.rc.added) (addX G.ex (addC G.wl e.rc.added))), (3, .int .i64 e.rc.lookups), (4, .int .i64 e.rc.closer), (5, .int .i64 e.rc.failed)] (by simp [eval_same, eval_ne, put_size, hsz, e12, e26, e40]) (entC k (addN G.wl e.rc.added) (addX G.ex (addC G.wl e.rc.added)) 0 0 e.rc.lookups e.rc.closer e.rc.failed) (ent_built k HK.out.2 _ _ _ _ _)) ?_
                    refine wpAnyT_run 12 (some 41) (.pointer (some ⟨X.heap.size, 0, none⟩)) (X.alloc (.cells ent0 72)) (by kernel_rfl) rfl rfl rfl (run_alloc rfl (alloc72_run _)) (Or.inr (hb1.alloc (by omega) _)) ?_
                    refine wpAnyT_store_row 13 72 _ _ X.heap.size (entC k (addN G.wl e.rc.added) (addX G.ex (addC G.wl e.rc.added)) 0 0 e.rc.lookups e.rc.closer e.rc.failed) ent0 72 (by kernel_rfl) rfl rfl rfl rfl (by simp [eval_same, eval_ne, put_size, hsz, e12, e26, e40]) (by simp [eval_same, eval_ne, put_size, hsz, e12, e26, e40]) (heap_alloc_new _ _) (by rw [Yba.size72, entC_size k HK.out.2]) (by rw [ent0_size, entC_size k HK.out.2]) (entC_one _ _ _ _ _ _ _ _) rfl ?_
                    refine wpAnyT_done (by kernel_rfl) ?_ _
                    have HP : Hid (Below W12.heap.size W12 ((X.alloc (.cells ent0 72)).setRow X.heap.size (entC k (addN G.wl e.rc.added) (addX G.ex (addC G.wl e.rc.added)) 0 0 e.rc.lookups e.rc.closer e.rc.failed)) ∧ ((X.alloc (.cells ent0 72)).setRow X.heap.size (entC k (addN G.wl e.rc.added) (addX G.ex (addC G.wl e.rc.added)) 0 0 e.rc.lookups e.rc.closer e.rc.failed)).heap[X.heap.size]? = some (.cells (entC k (addN G.wl e.rc.added) (addX G.ex (addC G.wl e.rc.added)) 0 0 e.rc.lookups e.rc.closer e.rc.failed) 72 (0, 0))) := by
                      have hb : Below W12.heap.size W12 (X.alloc (.cells ent0 72)) := hb1.alloc (by omega) _
                      refine And.intro ⟨hb.os, hb.tape, hb.output, by rw [setRow_size]; exact hb.size, fun kk hkk => (setRow_other _ _ _ _ (by omega)).trans (hb.block kk hkk)⟩ (setRow_heap _ _ _ _ _ _ (heap_alloc_new _ _))
                    rw [ha]
                    simp only [Act.put, List.setIfInBounds_toArray, List.set_cons_zero, List.set_cons_succ]
                    go_wp2
                    go_meet
                    case rel => exact ⟨X.heap.size, rfl, by omega, HP.out.1, HP.out.2⟩
                  · have hb1 : Below W12.heap.size W12 (((W12.drew.alloc (.cells ent0 72)).alloc (.cells #[.int .u64 (addN G.wl e.rc.added : Int), .int .i64 (addX G.ex (addC G.wl e.rc.added)), .pointer none] 38)).alloc (.cells #[.int .u64 (addN G.wl e.rc.added : Int), .int .i64 (addX G.ex (addC G.wl e.rc.added)), .pointer none] 38)) := ((hS.alloc (Nat.le_refl _) _).alloc (by simp) _).alloc (by simp; omega) _
                    refine wpAnyT_call8 4 (some 368) _ _ #[timeV G.wl G.ex, .int .i64 e.rc.added] (timeV (addN G.wl e.rc.added) (addX G.ex (addC G.wl e.rc.added))) (by kernel_rfl) rfl rfl rfl rfl (by simp [eval_same, eval_ne, put_size, hsz, e12, e26, e40]) (hadd _) (Or.inr hb1) ?_
                    have hrow : (((W12.drew.alloc (.cells ent0 72)).alloc (.cells #[.int .u64 (addN G.wl e.rc.added : Int), .int .i64 (addX G.ex (addC G.wl e.rc.added)), .pointer none] 38)).alloc (.cells #[.int .u64 (addN G.wl e.rc.added : Int), .int .i64 (addX G.ex (addC G.wl e.rc.added)), .pointer none] 38)).heap[W12.heap.size]? = some (.cells ent0 72 (0, 0)) := by
                      rw [Below.heap_alloc _ _ _ (by simp; omega), Below.heap_alloc _ _ _ (by simp)]
                      exact heap_alloc_new _ _
                    obtain ⟨X, hX⟩ : ∃ x, x = ((W12.drew.alloc (.cells ent0 72)).alloc (.cells #[.int .u64 (addN G.wl e.rc.added : Int), .int .i64 (addX G.ex (addC G.wl e.rc.added)), .pointer none] 38)).alloc (.cells #[.int .u64 (addN G.wl e.rc.added : Int), .int .i64 (addX G.ex (addC G.wl e.rc.added)), .pointer none] 38) := ⟨_, rfl⟩
                    rw [← hX] at hb1 hrow ⊢
                    clear hX
                    refine wpAnyT_take 11 (some 375) (.agg (entC k (addN G.wl e.rc.added) (addX G.ex (addC G.wl e.rc.added)) 0 0 e.rc.lookups e.rc.closer e.rc.failed)) rfl rfl (by kernel_rfl) (by kernel_rfl) (by kernel_rfl) (by kernel_rfl) (fun _ _ _ h => h) hb1 (yi_build_as rfl 72 _ rfl #[(0, .agg (kcells k)), (1, timeV (addN G.wl e.rc.added) (addX G.ex (addC G.wl e.rc.added))), (3, .int .i64 e.rc.lookups), (4, .int .i64 e.rc.closer), (5, .int .i64 e.rc.failed)] (by simp [eval_same, eval_ne, put_size, hsz, e12, e26, e40]) (entC k (addN G.wl e.rc.added) (addX G.ex (addC G.wl e.rc.added)) 0 0 e.rc.lookups e.rc.closer e.rc.failed) (ent_built k HK.out.2 _ _ _ _ _)) ?_
                    refine wpAnyT_store_row 13 72 _ _ W12.heap.size (entC k (addN G.wl e.rc.added) (addX G.ex (addC G.wl e.rc.added)) 0 0 e.rc.lookups e.rc.closer e.rc.failed) ent0 72 (by kernel_rfl) rfl rfl rfl rfl (by simp [eval_same, eval_ne, put_size, hsz, e12, e26, e40]) (by simp [eval_same, eval_ne, put_size, hsz, e12, e26, e40]) hrow (by rw [Yba.size72, entC_size k HK.out.2]) (by rw [ent0_size, entC_size k HK.out.2]) (entC_one _ _ _ _ _ _ _ _) rfl ?_
                    refine wpAnyT_done (by kernel_rfl) ?_ _
                    have HP : Hid (Below W12.heap.size W12 (X.setRow W12.heap.size (entC k (addN G.wl e.rc.added) (addX G.ex (addC G.wl e.rc.added)) 0 0 e.rc.lookups e.rc.closer e.rc.failed)) ∧ (X.setRow W12.heap.size (entC k (addN G.wl e.rc.added) (addX G.ex (addC G.wl e.rc.added)) 0 0 e.rc.lookups e.rc.closer e.rc.failed)).heap[W12.heap.size]? = some (.cells (entC k (addN G.wl e.rc.added) (addX G.ex (addC G.wl e.rc.added)) 0 0 e.rc.lookups e.rc.closer e.rc.failed) 72 (0, 0))) := by
                      have hb : Below W12.heap.size W12 X := hb1
                      refine And.intro ⟨hb.os, hb.tape, hb.output, by rw [setRow_size]; exact hb.size, fun kk hkk => (setRow_other _ _ _ _ (by omega)).trans (hb.block kk hkk)⟩ (setRow_heap _ _ _ _ _ _ hrow)
                    rw [ha]
                    simp only [Act.put, List.setIfInBounds_toArray, List.set_cons_zero, List.set_cons_succ]
                    go_wp2
                    go_meet
                    case rel => exact ⟨W12.heap.size, rfl, by omega, HP.out.1, HP.out.2⟩
                case rest => as_aux_lemma =>
                  obtain ⟨g9, rfl, hg9, hb9, hrow9⟩ := hcut
                  obtain ⟨W13, rfl⟩ : ∃ x : World, x = wc := ⟨wc, rfl⟩
                  have r2 : W13.cell? ⟨W11.heap.size, 2, none⟩ = some (.int .i64 e.rc.answered) := (HX.out _ hb9).2.2.1 2 _ rfl
                  have H9 := hide (And.intro hg9 (And.intro hb9 hrow9))
                  have HES := hide (entC_size k HK.out.2)
                  by_cases hna : e.rc.answered = -9223372036854775808
                  · have hE1 := HEV.out.1
                    rw [if_pos hna] at hE1
                    have HE1 := hide hE1
                    clear hg9 hb9 hrow9 hE1
                    go_wp2_with (first | (with_reducible refine wpList_load72_g (.tmp 34) rfl (by kernel_rfl) W8.heap.size E (by kernel_rfl) (HX.out _ H9.out.2.1).2.2.2.1 HEV.out.2 ?_) | (with_reducible refine wpList_load72_g (.tmp 41) rfl (by kernel_rfl) g9 E (by kernel_rfl) (HE1.out ▸ H9.out.2.2) HEV.out.2 ?_) | (with_reducible refine wpList_eql72_g _ _ _ rfl (by kernel_rfl) E (by kernel_rfl) (by kernel_rfl) (HE1.out ▸ eql72 k HK.out.2 _ _ _ _ _ _ _ _) ?_))
                    go_ret
                    exact ⟨rfl, (HX.out _ H9.out.2.1).2.2.2.2⟩
                  · have hE1 := HEV.out.1
                    rw [if_neg hna] at hE1
                    have HE1 := hide hE1
                    have hadd := add_exact G.wl G.ex e.rc.answered HW.out hqb.2.2.1 hqb.2.2.2
                    unfold timeV at hadd
                    have p0 := (HX.out _ hb9).2.1.1
                    have p1 := (HX.out _ hb9).2.1.2.1
                    have p2 := (HX.out _ hb9).2.1.2.2
                    have hna2 : (e.rc.answered == -9223372036854775808) = false := by simpa using hna
                    obtain ⟨F, hF⟩ : ∃ F, F = (entC k (addN G.wl e.rc.added) (addX G.ex (addC G.wl e.rc.added)) 0 0 e.rc.lookups e.rc.closer e.rc.failed) := ⟨_, rfl⟩
                    have hFs : F.size = 41 := by rw [hF]; exact entC_size k HK.out.2 _ _ _ _ _ _ _
                    have hrw := hrow9
                    rw [← hF] at hrw
                    have x35 : W13.cell? ⟨g9, 35, none⟩ = some F[35] := by simp only [World.cell?, hrw]; exact Array.getElem?_eq_getElem _
                    have x36 : W13.cell? ⟨g9, 36, none⟩ = some F[36] := by simp only [World.cell?, hrw]; exact Array.getElem?_eq_getElem _
                    have x37 : W13.cell? ⟨g9, 37, none⟩ = some F[37] := by simp only [World.cell?, hrw]; exact Array.getElem?_eq_getElem _
                    have y35 : W13.frozen? ⟨g9, 35, none⟩ = false := by simp only [World.frozen?, hrw]; simp
                    have y36 : W13.frozen? ⟨g9, 36, none⟩ = false := by simp only [World.frozen?, hrw]; simp
                    have y37 : W13.frozen? ⟨g9, 37, none⟩ = false := by simp only [World.frozen?, hrw]; simp
                    have hgl := (Array.getElem?_eq_some_iff.1 hrw).1
                    have HRW := hide hrw
                    have HFF := hide hF
                    generalize F[35] = v35 at *
                    generalize F[36] = v36 at *
                    generalize F[37] = v37 at *
                    clear hrw hF hna hE1 hg9 hb9 hrow9
                    have hn1 : ¬ g9 = G.eb := by have := H9.out.1; omega
                    have hn2 : ¬ g9 = W11.heap.size := by have := H9.out.1; omega
                    have hn3 : ¬ G.eb = g9 := fun h => hn1 h.symm
                    have hn4 : ¬ W11.heap.size = g9 := fun h => hn2 h.symm
                    go_upto_region 82 with (first | (go_at_call 8; refine (hadd _).mono ?_; rintro e5 w5 ⟨rfl, rfl⟩))
                    obtain ⟨W14, hW14⟩ : ∃ x, x = ((((W13.setCell ⟨g9, 35, none⟩ (.int .u64 (addN G.wl e.rc.answered : Int))).setCell ⟨g9, 36, none⟩ (.int .i64 (addX G.ex (addC G.wl e.rc.answered)))).setCell ⟨g9, 37, none⟩ (.pointer none)).alloc (.cells #[.int .u64 (addN G.wl e.rc.answered : Int), .int .i64 (addX G.ex (addC G.wl e.rc.answered)), .pointer none] 38)).alloc (.cells #[.int .u64 (addN G.wl e.rc.answered : Int), .int .i64 (addX G.ex (addC G.wl e.rc.answered)), .pointer none] 38) := ⟨_, rfl⟩
                    rw [← hW14]
                    have hws := H9.out.2.1.size
                    have hg9' := H9.out.1
                    have hb14 : Below W12.heap.size W12 W14 := by
                      rw [hW14]
                      exact ((((H9.out.2.1.setCell (by exact hg9') _).setCell (by exact hg9') _).setCell (by exact hg9') _).alloc (by simp [World.setCell]; omega) _).alloc (by simp [World.setCell]; omega) _
                    have hr14 : W14.heap[g9]? = some (.cells E 72 (0, 0)) := by
                      rw [hW14, HE1.out, ← ent_set k HK.out.2, ← HFF.out]
                      have h0 := row_set (row_set (row_set HRW.out 35 (.int .u64 (addN G.wl e.rc.answered : Int))) 36 (.int .i64 (addX G.ex (addC G.wl e.rc.answered)))) 37 (.pointer none)
                      have hl0 := (Array.getElem?_eq_some_iff.1 h0).1
                      refine (Below.heap_alloc _ _ _ ?_).trans ((Below.heap_alloc _ _ _ hl0).trans h0)
                      simp at hl0 ⊢; omega
                    have H14 := hide (And.intro hb14 hr14)
                    clear hW14 hb14 hr14 x35 x36 x37 y35 y36 y37 p0 p1 p2 r2 hadd hws hg9'
                    go_wp2_with (first | (with_reducible refine wpList_load72_g (.tmp 34) rfl (by kernel_rfl) W8.heap.size E (by kernel_rfl) (HX.out _ H14.out.1).2.2.2.1 HEV.out.2 ?_) | (with_reducible refine wpList_load72_g (.tmp 41) rfl (by kernel_rfl) g9 E (by kernel_rfl) H14.out.2 HEV.out.2 ?_) | (with_reducible refine wpList_eql72_g _ _ _ rfl (by kernel_rfl) E (by kernel_rfl) (by kernel_rfl) (HE1.out ▸ eql72 k HK.out.2 _ _ _ _ _ _ _ _) ?_))
                    go_ret
                    exact ⟨rfl, (HX.out _ H14.out.1).2.2.2.2⟩
end Go.Proofs.Ybulkegxe
