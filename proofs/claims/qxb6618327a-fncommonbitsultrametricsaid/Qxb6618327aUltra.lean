import Derived.Test.Qxb6618327aKeys
import Derived.Deep.DeepCutAuto
namespace Go.Proofs.Qxb6618327a
open Go.RowKit

theorem min_lt (x y : Nat) (_hx : x ≤ 160) (_hy : y ≤ 160) (h : x < y) (w : World) :
    Calls Try.prog 7 #[.int .i64 (x : Int), .int .i64 (y : Int)] w fun e w' => e = .returned (.int .i64 (x : Int)) ∧ w' = w := by
  go_enter Try.func7, Try.ntmps7
  go_wp2
  go_ret
  exact ⟨rfl, rfl⟩
theorem min_ge (x y : Nat) (_hx : x ≤ 160) (_hy : y ≤ 160) (h : ¬ x < y) (w : World) :
    Calls Try.prog 7 #[.int .i64 (x : Int), .int .i64 (y : Int)] w fun e w' => e = .returned (.int .i64 (y : Int)) ∧ w' = w := by
  go_enter Try.func7, Try.ntmps7
  go_wp2
  go_ret
  exact ⟨rfl, rfl⟩

theorem blk {B : Nat} {W X : World} (h : Below B W X) {g : Nat} {o : Obj} (h0 : W.heap[g]? = some o) (hg : g < B) : X.heap[g]? = some o := (h.block g hg).trans h0

set_option maxHeartbeats 2000000 in
theorem ultra_any (ca cb cc : Array Value) (a b c : Nat → Int) (ha : Key ca a) (hb : Key cb b) (hc : Key cc c) (w : World) :
    Calls Try.prog 4 #[.agg ca, .agg cb, .agg cc] w fun e w' => e = .returned (.bool true) ∧ Below w.heap.size w w' := by
  have hiA : Hid ((Try.prog.info? 22).map (·.size) = some ca.size) := by rw [ha.size]; exact size22
  have hiB : Hid ((Try.prog.info? 22).map (·.size) = some cb.size) := by rw [hb.size]; exact size22
  have hiC : Hid ((Try.prog.info? 22).map (·.size) = some cc.size) := by rw [hc.size]; exact size22
  obtain ⟨W0, hW0⟩ : ∃ W0, W0 = ((w.alloc (.cells ca 22)).alloc (.cells cb 22)).alloc (.cells cc 22) := ⟨_, rfl⟩
  have hgA : Hid (W0.heap[w.heap.size]? = some (.cells ca 22 (0, 0))) := by
    show _ = _
    rw [hW0, heap_alloc_old _ _ (by simp; omega)]; exact heap_alloc2_old _ _ _
  have hgB : Hid (W0.heap[w.heap.size + 1]? = some (.cells cb 22 (0, 0))) := by
    show _ = _
    rw [hW0, heap_alloc_old _ _ (by simp)]; exact heap_alloc2_new _ _ _
  have hgC : Hid (W0.heap[w.heap.size + 2]? = some (.cells cc 22 (0, 0))) := by
    show _ = _
    have := heap_alloc_new ((w.alloc (.cells ca 22)).alloc (.cells cb 22)) (.cells cc 22)
    rw [hW0]; simpa using this
  have hs0 : Hid (W0.heap.size = w.heap.size + 3) := by show _ = _; rw [hW0]; simp
  have hbl : Hid (Below w.heap.size w W0) := by
    rw [hW0]; exact (((Below.refl _ _).alloc (Nat.le_refl _) _).alloc (by simp) _).alloc (by simp; omega) _
  have HW0 : Hid (W0 = ((w.alloc (.cells ca 22)).alloc (.cells cb 22)).alloc (.cells cc 22)) := hW0
  clear hW0
  go_enter Try.func4, Try.ntmps4
  go_upto_region 1 with fail
  rw [← HW0.out]
  go_wp2_with (first | (refine wpList_load_row rfl 22 (.tmp 3) rfl w.heap.size rfl 22 ca (0, 0) _ hgA.out Try.underlying22 rfl hiA.out ?_))
  refine (zzcommon_any ca ca a a ha ha _).mono ?_
  rintro e W1 ⟨r, rfl, hL0, hb1⟩
  obtain rfl := hL0.self
  clear hL0
  have hB1 : Hid (Below (w.heap.size + 3) W0 W1) := hs0.out ▸ hb1
  have hs1 : w.heap.size + 3 ≤ W1.heap.size := by have := hB1.out.size; have := hs0.out; omega
  clear hb1
  go_wp2_with (first | (refine wpList_load_row rfl 22 (.tmp 3) rfl w.heap.size rfl 22 ca (0, 0) _ (blk hB1.out hgA.out (by omega)) Try.underlying22 rfl hiA.out ?_) | (refine wpList_load_row rfl 22 (.tmp 4) rfl (w.heap.size + 1) rfl 22 cb (0, 0) _ (blk hB1.out hgB.out (by omega)) Try.underlying22 rfl hiB.out ?_))
  refine (zzcommon_any ca cb a b ha hb _).mono ?_
  rintro e W2 ⟨x, rfl, hLx, hb2⟩
  have hB2 : Hid (Below (w.heap.size + 3) W0 W2) := hB1.out.trans (hb2.mono hs1)
  have hs2 : w.heap.size + 3 ≤ W2.heap.size := by have := hb2.size; omega
  clear hb2
  go_wp2_with (first | (refine wpList_load_row rfl 22 (.tmp 3) rfl w.heap.size rfl 22 ca (0, 0) _ (blk hB2.out hgA.out (by omega)) Try.underlying22 rfl hiA.out ?_) | (refine wpList_load_row rfl 22 (.tmp 4) rfl (w.heap.size + 1) rfl 22 cb (0, 0) _ (blk hB2.out hgB.out (by omega)) Try.underlying22 rfl hiB.out ?_))
  refine (zzcommon_any cb ca b a hb ha _).mono ?_
  rintro e W3 ⟨s, rfl, hLs, hb3⟩
  obtain rfl : x = s := hLx.unique hLs.symm
  clear hLs
  have hB3 : Hid (Below (w.heap.size + 3) W0 W3) := hB2.out.trans (hb3.mono hs2)
  have hs3 : w.heap.size + 3 ≤ W3.heap.size := by have := hb3.size; omega
  clear hb3
  go_wp2_with (first | (refine wpList_load_row rfl 22 (.tmp 4) rfl (w.heap.size + 1) rfl 22 cb (0, 0) _ (blk hB3.out hgB.out (by omega)) Try.underlying22 rfl hiB.out ?_) | (refine wpList_load_row rfl 22 (.tmp 5) rfl (w.heap.size + 2) rfl 22 cc (0, 0) _ (blk hB3.out hgC.out (by omega)) Try.underlying22 rfl hiC.out ?_))
  refine (zzcommon_any cb cc b c hb hc _).mono ?_
  rintro e W4 ⟨y, rfl, hLy, hb4⟩
  have hB4 : Hid (Below (w.heap.size + 3) W0 W4) := hB3.out.trans (hb4.mono hs3)
  have hs4 : w.heap.size + 3 ≤ W4.heap.size := by have := hb4.size; omega
  clear hb4
  go_wp2_with (first | (refine wpList_load_row rfl 22 (.tmp 3) rfl w.heap.size rfl 22 ca (0, 0) _ (blk hB4.out hgA.out (by omega)) Try.underlying22 rfl hiA.out ?_) | (refine wpList_load_row rfl 22 (.tmp 5) rfl (w.heap.size + 2) rfl 22 cc (0, 0) _ (blk hB4.out hgC.out (by omega)) Try.underlying22 rfl hiC.out ?_))
  refine (zzcommon_any ca cc a c ha hc _).mono ?_
  rintro e W5 ⟨z, rfl, hLz, hb5⟩
  have hB5 : Hid (Below (w.heap.size + 3) W0 W5) := hB4.out.trans (hb5.mono hs4)
  clear hb5
  have hfin : Hid (Below w.heap.size w W5) := hbl.out.trans (hB5.out.mono (by omega))
  obtain ⟨hu, hu1, hu2⟩ := hLx.ultra hLy hLz
  have hx1 := hLx.1
  have hy1 := hLy.1
  have hz1 := hLz.1
  clear hLx hLy hLz hs1 hs2 hs3 hs4
  by_cases hlt : x < y
  · obtain rfl : z = x := hu1 hlt
    clear hu hu1 hu2
    go_wp2_with (go_at_call 7; refine (min_lt z y hz1 hy1 hlt _).mono ?_; rintro e w' ⟨rfl, hw⟩; subst w')
    go_ret
    exact ⟨rfl, hfin.out⟩
  · by_cases hlt2 : y < x
    · obtain rfl : z = y := hu2 hlt2
      clear hu hu1 hu2
      go_wp2_with (go_at_call 7; refine (min_ge x z hx1 hz1 hlt _).mono ?_; rintro e w' ⟨rfl, hw⟩; subst w')
      go_ret
      exact ⟨rfl, hfin.out⟩
    · obtain rfl : x = y := by omega
      have hzx : x ≤ z := by omega
      clear hu hu1 hu2 hlt2
      go_wp2_with (go_at_call 7; refine (min_ge x x hx1 hx1 hlt _).mono ?_; rintro e w' ⟨rfl, hw⟩; subst w')
      go_ret
      exact ⟨rfl, hfin.out⟩
end Go.Proofs.Qxb6618327a
