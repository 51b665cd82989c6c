import Derived.Test.Qxb6618026aUtf
import Derived.Laws.CopyOwn
import Derived.Deep.OwnRows
import Derived.WalkSpells
namespace Go.Proofs.Qxb6618026a
open Go.RowKit

theorem info5 : (Try.prog.info? 5).map (fun i => (i.zero, i.size, i.bytes)) = some (some (.int .u8 0), 1, 1) := by kernel_rfl
theorem size5 : (Try.prog.info? 5).map (·.size) = some 1 := by kernel_rfl

/-! ### zzBytes_FnUtf16UnitIgnoresWhatFollows -/
theorem bytes11_yes (a0 a1 : Option Addr) (l0 c0 l1 c1 : Nat) (w : World) (h : l0 + l1 ≤ 1048576) :
    Calls Try.prog 11 #[.slice a0 l0 c0, .slice a1 l1 c1] w fun e w' => e = .returned (.bool true) ∧ w' = w := by
  go_enter Try.func11, Try.ntmps11
  go_wp2
  go_ret
  exact ⟨rfl, rfl⟩
theorem bytes11_no (a0 a1 : Option Addr) (l0 c0 l1 c1 : Nat) (w : World) (m0 : l0 ≤ maxLen) (m1 : l1 ≤ maxLen) (h : 1048576 < l0 + l1) :
    Calls Try.prog 11 #[.slice a0 l0 c0, .slice a1 l1 c1] w fun e w' => e = .returned (.bool false) ∧ w' = w := by
  unfold maxLen at m0 m1
  by_cases h0 : 1048576 < l0
  · go_enter Try.func11, Try.ntmps11
    go_wp2
    go_ret
    exact ⟨rfl, rfl⟩
  · by_cases h1 : 1048576 < l1
    · go_enter Try.func11, Try.ntmps11
      go_wp2
      go_ret
      exact ⟨rfl, rfl⟩
    · go_enter Try.func11, Try.ntmps11
      go_wp2
      go_ret
      exact ⟨rfl, rfl⟩

/-! ### rows -/
theorem six_row {w : World} {b n : Nat} {z : Nat → Int} (h : w.rowIs b 5 n (fun j => .int .u8 (z j))) (hn : n ≤ maxLen) (hz : ∀ i, 0 ≤ z i ∧ z i ≤ 255) : Six w (some ⟨b, 0, none⟩) n n z := by
  intro h6
  refine ⟨Nat.le_refl _, hn, b, 0, rfl, fun i _ => hz i, fun i hi => ?_⟩
  rw [Nat.zero_add]
  exact h.cell (by omega)
theorem row_step {w : World} {b n m : Nat} {z : Nat → Int} (h : w.rowIs b 5 n (fun j => .int .u8 (if j < m then z j else 0))) {v : Int} (hv : v = z m) :
    (w.setCell ⟨b, m, none⟩ (.int .u8 v)).rowIs b 5 n (fun j => .int .u8 (if j < m + 1 then z j else 0)) := by
  refine (h.set m _).congr fun i _ => ?_
  by_cases e : i = m
  · subst e; simp [hv]
  · by_cases e2 : i < m
    · simp [e, e2, Nat.lt_succ_of_lt e2]
    · have e3 : ¬ i < m + 1 := by omega
      simp [e, e2, e3]

/-- 'copy' of a whole slice of bytes into a new row of its length -/
theorem copy_new (w : World) (x : Addr) (len cap : Nat) (z : Nat → Int) (hc : ∀ i, i < len → w.cell? (x.add i) = some (.int .u8 (z i))) :
    ∃ W1, (Builtin.copy_ #[22, 22] 3 #[.slice (some ⟨w.heap.size, 0, none⟩) len len, .slice (some x) len cap]).run Try.prog (w.alloc (.cells (madeCells #[.int .u8 0] len) 5)) = .ok (goInt len) W1 ∧
      W1.rowIs w.heap.size 5 len (fun j => .int .u8 (z j)) ∧ Below w.heap.size w W1 ∧ W1.heap.size = w.heap.size + 1 := by
  have hg : (w.alloc (.cells (madeCells #[.int .u8 0] len) 5)).heap[w.heap.size]? = some (.cells (madeCells #[.int .u8 0] len) 5 (0, 0)) := heap_alloc_new w _
  have hr := run_copy_row (P := Try.prog) (w.alloc (.cells (madeCells #[.int .u8 0] len) 5)) 22 22 3 5 w.heap.size 0 len len x len cap (madeCells #[.int .u8 0] len) 5
    ((List.range len).map fun j => .int .u8 (z j)) Try.underlying22 size5 hg (by simp)
    (fun j v hj => by
      rw [List.getElem?_map] at hj
      by_cases hjl : j < len
      · rw [List.getElem?_range hjl] at hj
        simp only [Option.map_some, Option.some.injEq] at hj
        subst hj
        have := hc j hjl
        have hb : (x.add j).block < w.heap.size := block_lt_of_cell this
        rw [(((Below.refl w.heap.size w).alloc (Nat.le_refl _) _).cell hb)]
        exact this
      · rw [List.getElem?_eq_none (by simp; omega)] at hj; simp at hj)
    (by simp [size_madeCells]) (by intro v hv; simp at hv; obtain ⟨j, _, rfl⟩ := hv; rfl)
  simp only [List.length_map, List.length_range] at hr
  refine ⟨_, hr, ⟨_, setRow_heap _ _ _ _ _ _ hg, ?_, ?_⟩, ?_, ?_⟩
  · simp [size_madeCells]
  · intro i hi
    simp [size_madeCells, hi]
  · exact below_setRow ((Below.refl w.heap.size w).alloc (Nat.le_refl _) _) (Nat.le_refl _) _
  · simp [World.setRow]
end Go.Proofs.Qxb6618026a
