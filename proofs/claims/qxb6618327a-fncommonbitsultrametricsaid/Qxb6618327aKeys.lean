import Derived.Test.Qxb6618327aBits
namespace Go.Proofs.Qxb6618327a
open Go.RowKit

theorem size22 : (Try.prog.info? 22).map (·.size) = some 20 := by kernel_rfl

set_option maxHeartbeats 400000 in
theorem zzcommon_any (ca cb : Array Value) (a b : Nat → Int) (ha : Key ca a) (hb : Key cb b) (w : World) :
    Calls Try.prog 5 #[.agg ca, .agg cb] w fun e w' => ∃ r : Nat, e = .returned (.int .i64 (r : Int)) ∧ Longest a b r ∧ Below w.heap.size w w' := by
  have hiA : Hid ((Try.prog.info? 22).map (·.size) = some ca.size) := by rw [ha.size]; exact size22
  have hiB : Hid ((Try.prog.info? 22).map (·.size) = some cb.size) := by rw [hb.size]; exact size22
  have hgA : Hid (((w.alloc (.cells ca 22)).alloc (.cells cb 22)).heap[w.heap.size]? = some (.cells ca 22 (0, 0))) := heap_alloc2_old _ _ _
  have hgB : Hid (((w.alloc (.cells ca 22)).alloc (.cells cb 22)).heap[w.heap.size + 1]? = some (.cells cb 22 (0, 0))) := heap_alloc2_new _ _ _
  have hbl : Hid (Below w.heap.size w ((w.alloc (.cells ca 22)).alloc (.cells cb 22))) := ((Below.refl _ _).alloc (Nat.le_refl _) _).alloc (by simp) _
  go_enter Try.func5, Try.ntmps5
  go_wp2_with (first | (refine wpList_load_row rfl 22 (.tmp 2) rfl w.heap.size rfl 22 ca (0, 0) _ hgA.out Try.underlying22 rfl hiA.out ?_) | (refine wpList_load_row rfl 22 (.tmp 3) rfl (w.heap.size + 1) rfl 22 cb (0, 0) _ hgB.out Try.underlying22 rfl hiB.out ?_) | (go_at_call 8; refine (common_any ca cb a b ha hb _).mono ?_; rintro e w1 ⟨r, rfl, hL, hb1⟩))
  go_ret
  exact ⟨r, rfl, hL, hbl.out.trans (hb1.mono (by simp; omega))⟩
end Go.Proofs.Qxb6618327a
