import Derived.Test.YbulkegxeLocks
namespace Go.Proofs.Ybulkegxe
open Go.RowKit

theorem method_lock (a : Addr) (w : World) : (method 225 23 (.pointer (some a)) "Lock").run Yba.prog w = .ok (42, .pointer (some a)) w := by kernel_rfl
theorem method_unlock (a : Addr) (w : World) : (method 225 23 (.pointer (some a)) "Unlock").run Yba.prog w = .ok (43, .pointer (some a)) w := by kernel_rfl

set_option maxRecDepth 100000 in
set_option maxHeartbeats 800000 in
theorem size_any (base l t : Nat) (v : Value) (n : Int) (w : World) (hl : w.heap[l]? = some (.cells #[v] 26 (0, 0))) (hlb : l < base) (htb : t < base) (hlt : l ≠ t) (hbase : base ≤ w.heap.size) (hown : w.ownsRow base 5 1 v 0 [])
    (c32 : w.cell? ⟨t, 32, none⟩ = some (.iface 23 (.pointer (some ⟨l, 0, none⟩)))) (c44 : w.cell? ⟨t, 44, none⟩ = some (.int .i64 n)) :
    Calls Yba.prog 5 #[.pointer (some ⟨t, 0, none⟩)] w fun e w' => e = .returned (.int .i64 n) ∧ Logged base l 2 [.int .u8 76, .int .u8 85] w w' := by
  have h1 := lock_any base l 0 [] v w hl hlb hbase hown (by omega)
  have hm1 := method_lock ⟨l, 0, none⟩
  have hm2 := method_unlock ⟨l, 0, none⟩
  go_enter_defers Yba.func5, Yba.ntmps5
  go_wp2_with fail
  refine h1.mono ?_
  rintro e w1 ⟨rfl, hS⟩
  obtain ⟨v1, k1, k2, k3, k4, k5, k6, k7, k8⟩ := hS
  have d32 : w1.cell? ⟨t, 32, none⟩ = some (.iface 23 (.pointer (some ⟨l, 0, none⟩))) := (World.cell?_of_block (w := w) (k3 t htb (Ne.symm hlt))).trans c32
  have d44 : w1.cell? ⟨t, 44, none⟩ = some (.int .i64 n) := (World.cell?_of_block (w := w) (k3 t htb (Ne.symm hlt))).trans c44
  have h2 := unlock_deferred base l 1 [.int .u8 76] v1 w1 k1 hlb k4 (by simpa using k2) (by omega) .returning
  have HK : Hid ((∀ k, k < base → k ≠ l → w1.heap[k]? = w.heap[k]?) ∧ w.heap.size ≤ w1.heap.size ∧ w1.os = w.os ∧ w1.tape = w.tape ∧ w1.output = w.output) := ⟨k3, k5, k6, k7, k8⟩
  clear c32 c44 h1 k3 k5 k6 k7 k8 hl hown
  go_wp2_with fail
  refine leaves_cons (f := 43) (args := #[.pointer (some ⟨l, 0, none⟩)]) (by simp) (by simp [go_sem, hm2]) ?_
  refine h2.mono ?_
  rintro e u' w2 ⟨rfl, rfl, hS⟩
  refine ⟨_, results_tmp rfl _ _ _, rfl, ?_⟩
  obtain ⟨v2, g1, g2, g3, g4, g5, g6, g7, g8⟩ := hS
  obtain ⟨o1, o2, o3, o4, o5⟩ := HK.out
  exact ⟨v2, g1, by simpa using g2, fun k h h' => (g3 k h h').trans (o1 k h h'), g4, by omega, g6.trans o3, g7.trans o4, g8.trans o5⟩
end Go.Proofs.Ybulkegxe
