import Derived.Test.Qxb6618327aKeys
import Derived.Deep.QuietTactic
import Derived.Deep.DeepCutAuto
namespace Go.Proofs.Qxb6618327a
open Go.RowKit

/-! ### a region that draws its order: whatever it reads stands in every world of a kind, and its callees leave a world of that kind -/
theorem wpQuiet_load {P : Program} {ops : Array Oper} {C : World → Prop} {Q : Act → Prop} {a : Act} {o : Oper} {rest : List Oper} (hw : Region.wanted o (yielded ops a.tmps) = true) (ty : TypeId) (x : Operand) (ho : o.op = .load ty x) (v : Value)
    (hrun : ∀ w, C w → (Instr.loadAt ty (a.eval x)).run P w = .ok v w) (h : wpQuiet P ops C Q rest (a.put o.dst v)) : wpQuiet P ops C Q (o :: rest) a := by
  refine wpQuiet_step fun K hK => ?_
  rw [if_pos hw]
  refine ⟨v, fun w hC => ?_, hK _ h⟩
  unfold Oper.quietAt execOp
  simp only [ho, Sem.run_bind, hrun w hC, Result.andThen_ok, Sem.run_pure]
  exact ⟨rfl, rfl⟩

theorem wpQuiet_mv {P : Program} {ops : Array Oper} {C : World → Prop} {Q : Act → Prop} {a : Act} {o : Oper} {rest : List Oper} (hw : Region.wanted o (yielded ops a.tmps) = true) (x : Operand) (ho : o.op = .move x) (v : Value) (hv : a.eval x = v)
    (h : wpQuiet P ops C Q rest (a.put o.dst v)) : wpQuiet P ops C Q (o :: rest) a := by
  refine BigFrame.wpQuiet_want hw (fun K hK => BigFrame.quiet_move x ho (hK _ ?_))
  rw [hv]; exact h
theorem wpQuiet_val {P : Program} {ops : Array Oper} {C : World → Prop} {Q : Act → Prop} {a : Act} {o : Oper} {rest : List Oper} (hw : Region.wanted o (yielded ops a.tmps) = true) (v : Value)
    (hrun : ∀ w, C w → (execOp a.eval o).run P w = .ok (.value v) w) (h : wpQuiet P ops C Q rest (a.put o.dst v)) : wpQuiet P ops C Q (o :: rest) a := by
  refine BigFrame.wpQuiet_want hw (fun K hK => ⟨v, fun w hC => ?_, hK _ h⟩)
  unfold Oper.quietAt
  rw [hrun w hC]
  exact ⟨rfl, rfl⟩
theorem wpQuiet_fn {P : Program} {ops : Array Oper} {C : World → Prop} {Q : Act → Prop} {a : Act} {o : Oper} {rest : List Oper} (hw : Region.wanted o (yielded ops a.tmps) = true) (f : FuncId) (args : Array Value)
    (hrun : ∀ w, (execOp a.eval o).run P w = .ok (.enter f args) w) (v : Value) (hc : ∀ w, C w → Calls P f args w (fun e w'' => e = .returned v ∧ C w'')) (h : wpQuiet P ops C Q rest (a.put o.dst v)) : wpQuiet P ops C Q (o :: rest) a := by
  refine BigFrame.wpQuiet_want hw (fun K hK => ⟨v, fun w hC => ?_, hK _ h⟩)
  unfold Oper.quietAt
  rw [hrun w]
  exact ⟨rfl, hc w hC⟩

theorem bit_in {B : Nat} {W : World} {cs : Array Value} {z : Nat → Int} (h : Key cs z) (i : Nat) (hi : i < 160) (hBW : B ≤ W.heap.size) (X : World) (hX : Below B W X) :
    Calls Try.prog 6 #[.agg cs, .int .i64 (i : Int)] X fun e w'' => e = .returned (.int .u8 (bitI z i)) ∧ Below B W w'' :=
  (bit_any cs z h i hi X).mono fun e w'' ⟨he, hw⟩ => ⟨he, by rw [hw]; exact hX.alloc (Nat.le_trans hBW hX.size) _⟩

theorem load_key {B : Nat} {W X : World} (h : Below B W X) {g : Nat} {cs : Array Value} (hg : W.heap[g]? = some (.cells cs 22 (0, 0))) (hB : g < B) (hs : (Try.prog.info? 22).map (·.size) = some cs.size) :
    (Instr.loadAt 22 (.pointer (some ⟨g, 0, none⟩))).run Try.prog X = .ok (.agg cs) X := by
  simp only [Instr.loadAt, Instr.sureAddr, Sem.run_bind, Sem.run_pure, Result.andThen_ok, run_loadVar_row X g 22 22 cs (0, 0) _ ((h.block g hB).trans hg) Try.underlying22 rfl hs]

set_option maxHeartbeats 4000000 in
theorem shared_any (ca cb : Array Value) (a b : Nat → Int) (ha : Key ca a) (hb : Key cb b) (w : World) :
    Calls Try.prog 3 #[.agg ca, .agg cb] w fun e w' => e = .returned (.bool true) ∧ Below w.heap.size w w' := by
  have HIA : Hid ((Try.prog.info? 22).map (·.size) = some ca.size) := by rw [ha.size]; exact size22
  have HIB : Hid ((Try.prog.info? 22).map (·.size) = some cb.size) := by rw [hb.size]; exact size22
  obtain ⟨W0, hW0⟩ : ∃ W0, W0 = (w.alloc (.cells ca 22)).alloc (.cells cb 22) := ⟨_, rfl⟩
  have hgA : Hid (W0.heap[w.heap.size]? = some (.cells ca 22 (0, 0))) := by
    show _ = _
    rw [hW0]; exact heap_alloc2_old _ _ _
  have hgB : Hid (W0.heap[w.heap.size + 1]? = some (.cells cb 22 (0, 0))) := by
    show _ = _
    rw [hW0]; exact heap_alloc2_new _ _ _
  have hs0 : Hid (W0.heap.size = w.heap.size + 2) := by show _ = _; rw [hW0]; simp
  have hsW : w.heap.size + 2 ≤ W0.heap.size := by rw [hs0.out]; exact Nat.le_refl _
  have hbl : Hid (Below w.heap.size w W0) := by
    rw [hW0]; exact ((Below.refl _ _).alloc (Nat.le_refl _) _).alloc (by simp) _
  have HW0 : Hid (W0 = (w.alloc (.cells ca 22)).alloc (.cells cb 22)) := hW0
  clear hW0
  go_enter Try.func3, Try.ntmps3
  go_upto_region 1 with fail
  rw [← HW0.out]
  go_wp2_with (first | (refine wpList_load_row rfl 22 (.tmp 2) rfl w.heap.size rfl 22 ca (0, 0) _ hgA.out Try.underlying22 rfl HIA.out ?_) | (refine wpList_load_row rfl 22 (.tmp 3) rfl (w.heap.size + 1) rfl 22 cb (0, 0) _ hgB.out Try.underlying22 rfl HIB.out ?_))
  refine (zzcommon_any ca cb a b ha hb _).mono ?_
  rintro e W1 ⟨r, rfl, hL, hb1⟩
  have hB1 : Hid (Below (w.heap.size + 2) W0 W1) := hs0.out ▸ hb1
  have hr160 := hL.1
  have HL : Hid (Longest a b r) := hL
  clear hb1 hL
  go_wp2
  go_loopw [6] (fun i wr => ∃ k : Nat, k ≤ r ∧ i = .int .i64 (k : Int) ∧ Below (w.heap.size + 2) W0 wr) (fun i _ => r - (intOf i).toNat)
  case atStart => exact ⟨0, by omega, rfl, hB1.out⟩
  case round =>
    obtain ⟨k, hk, rfl, hB⟩ := hrel
    have hsz : w.heap.size + 2 ≤ wr.heap.size := by have := hB.size; have := hs0.out; omega
    have HB : Hid (Below (w.heap.size + 2) W0 wr) := hB
    clear hB
    by_cases hlt : k < r
    · have hbit : (bitI a k != bitI b k) = false := by have := HL.out.2.1 k hlt; simp [this]
      go_wp2
      refine wp_region_quiet (C := fun w' => Below (w.heap.size + 2) W0 w') (by kernel_rfl) (by kernel_rfl) (show Below _ _ _ from HB.out.drew) ?_
      refine wpQuiet_load rfl 22 (.tmp 2) rfl (.agg ca) (fun X hX => load_key hX hgA.out (by omega) HIA.out) ?_
      (try simp only [Act.put, List.setIfInBounds_toArray, List.set_cons_zero, List.set_cons_succ])
      refine wpQuiet_mv rfl (.tmp 6) rfl (.int .i64 (k : Int)) rfl ?_
      (try simp only [Act.put, List.setIfInBounds_toArray, List.set_cons_zero, List.set_cons_succ])
      refine wpQuiet_fn rfl 6 #[.agg ca, .int .i64 (k : Int)] (fun _ => by go_simp) (.int .u8 (bitI a k)) (fun X hX => bit_in ha k (by omega) hsW X hX) ?_
      (try simp only [Act.put, List.setIfInBounds_toArray, List.set_cons_zero, List.set_cons_succ])
      refine wpQuiet_load rfl 22 (.tmp 3) rfl (.agg cb) (fun X hX => load_key hX hgB.out (by omega) HIB.out) ?_
      (try simp only [Act.put, List.setIfInBounds_toArray, List.set_cons_zero, List.set_cons_succ])
      refine wpQuiet_mv rfl (.tmp 6) rfl (.int .i64 (k : Int)) rfl ?_
      (try simp only [Act.put, List.setIfInBounds_toArray, List.set_cons_zero, List.set_cons_succ])
      refine wpQuiet_fn rfl 6 #[.agg cb, .int .i64 (k : Int)] (fun _ => by go_simp) (.int .u8 (bitI b k)) (fun X hX => bit_in hb k (by omega) hsW X hX) ?_
      (try simp only [Act.put, List.setIfInBounds_toArray, List.set_cons_zero, List.set_cons_succ])
      refine wpQuiet_val rfl (.bool false) (fun X _ => ?_) ?_
      · go_simp
      (try simp only [Act.put, List.setIfInBounds_toArray, List.set_cons_zero, List.set_cons_succ])
      refine wpQuiet_nil ?_
      intro X hX
      go_wp2
      go_roundw
      case rel => exact ⟨k + 1, by omega, by go_num, hX⟩
      case measure => simp [intOf]; omega
    · obtain rfl : r = k := by omega
      by_cases h160 : r < 160
      · have hbit : (bitI a r == bitI b r) = false := by have := HL.out.2.2 h160; simp [this]
        have hlt160 : (r : Int) < 160 := by omega
        go_wp2
        refine wp_region_quiet (C := fun w' => Below (w.heap.size + 2) W0 w') (by kernel_rfl) (by kernel_rfl) (show Below _ _ _ from HB.out.drew) ?_
        refine wpQuiet_mv (by kernel_rfl) (.tmp 5) rfl (.int .i64 (r : Int)) rfl ?_
        (try simp only [Act.put, List.setIfInBounds_toArray, List.set_cons_zero, List.set_cons_succ])
        refine wpQuiet_val (by kernel_rfl) (.bool true) (fun X _ => by go_simp) ?_
        (try simp only [Act.put, List.setIfInBounds_toArray, List.set_cons_zero, List.set_cons_succ])
        refine wpQuiet_mv (by kernel_rfl) (.tmp 29) rfl (.bool true) rfl ?_
        (try simp only [Act.put, List.setIfInBounds_toArray, List.set_cons_zero, List.set_cons_succ])
        refine wpQuiet_load (by kernel_rfl) 22 (.tmp 2) rfl (.agg ca) (fun X hX => load_key hX hgA.out (by omega) HIA.out) ?_
        (try simp only [Act.put, List.setIfInBounds_toArray, List.set_cons_zero, List.set_cons_succ])
        refine wpQuiet_mv (by kernel_rfl) (.tmp 5) rfl (.int .i64 (r : Int)) rfl ?_
        (try simp only [Act.put, List.setIfInBounds_toArray, List.set_cons_zero, List.set_cons_succ])
        refine wpQuiet_fn (by kernel_rfl) 6 #[.agg ca, .int .i64 (r : Int)] (fun _ => by go_simp) (.int .u8 (bitI a r)) (fun X hX => bit_in ha r (by omega) hsW X hX) ?_
        (try simp only [Act.put, List.setIfInBounds_toArray, List.set_cons_zero, List.set_cons_succ])
        refine wpQuiet_load (by kernel_rfl) 22 (.tmp 3) rfl (.agg cb) (fun X hX => load_key hX hgB.out (by omega) HIB.out) ?_
        (try simp only [Act.put, List.setIfInBounds_toArray, List.set_cons_zero, List.set_cons_succ])
        refine wpQuiet_mv (by kernel_rfl) (.tmp 5) rfl (.int .i64 (r : Int)) rfl ?_
        (try simp only [Act.put, List.setIfInBounds_toArray, List.set_cons_zero, List.set_cons_succ])
        refine wpQuiet_fn (by kernel_rfl) 6 #[.agg cb, .int .i64 (r : Int)] (fun _ => by go_simp) (.int .u8 (bitI b r)) (fun X hX => bit_in hb r (by omega) hsW X hX) ?_
        (try simp only [Act.put, List.setIfInBounds_toArray, List.set_cons_zero, List.set_cons_succ])
        refine wpQuiet_val (by kernel_rfl) (.bool false) (fun X _ => by go_simp) ?_
        (try simp only [Act.put, List.setIfInBounds_toArray, List.set_cons_zero, List.set_cons_succ])
        refine wpQuiet_val (by kernel_rfl) (.bool false) (fun X _ => by go_simp) ?_
        (try simp only [Act.put, List.setIfInBounds_toArray, List.set_cons_zero, List.set_cons_succ])
        refine wpQuiet_nil ?_
        intro X hX
        go_wp2
        go_ret
        exact ⟨rfl, hbl.out.trans (hX.mono (by omega))⟩
      · have hge160 : ¬ (r : Int) < 160 := by omega
        have hge : decide ((r : Int) < 160) = false := by simpa using hge160
        go_wp2
        go_quiet (fail)
        go_wp2
        go_ret
        exact ⟨rfl, hbl.out.trans (below_drewN (HB.out.mono (by omega)) nq)⟩
end Go.Proofs.Qxb6618327a
