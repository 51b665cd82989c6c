import Derived.Test.Qxb6618129aRows
import Derived.WalkKit
import Derived.ProofKit
import Derived.OpenShut
import Derived.Below
import Derived.Deep.OwnRows
import Derived.WalkSpells
import Derived.WalkLawsBesides
namespace Go.Proofs.Qxb6618129a
open Go.RowKit

theorem info30 : (Try.prog.info? 30).map (fun i => (i.zero, i.size, i.bytes)) = some (some (.agg #[.int .i64 0, .bool false, .int .i64 0]), 3, 24) := by kernel_rfl
theorem info2 : (Try.prog.info? 2).map (fun i => (i.zero, i.size, i.bytes)) = some (some (.int .i64 0), 1, 8) := by kernel_rfl
theorem size2 : (Try.prog.info? 2).map (·.size) = some 1 := by kernel_rfl

/-- the cells of n new assignments -/
def made3 (n : Nat) : Array Value := madeCells #[.int .i64 0, .bool false, .int .i64 0] (n * 3)

theorem run_make30 (n : Nat) (hn : n ≤ 1048576) (w : World) :
    (Instr.makeSlice 26 (.int .i64 (n : Int)) (.int .i64 (n : Int))).run Try.prog w = .ok (.slice (some ⟨w.heap.size, 0, none⟩) n n) (w.alloc (.cells (made3 n) 30)) := by
  obtain ⟨i, hi, hz, hs, hb⟩ := info_parts info30
  have hr := run_make (P := Try.prog) w 26 30 i _ Try.underlying26 hi hz .i64 .i64 n n (by omega) (Int.le_refl _) (by rw [hb]; omega) (by omega)
  rw [hs] at hr
  simpa [made3, Value.cells] using hr

/-- WHAT IS KNOWN OF A SLICE OF ASSIGNMENTS: it has no element; or it leads to its cells, three an element. -/
def HeldV (w : World) (a : Option Addr) (len : Nat) (R : Nat → Int) (A : Nat → Bool) (J : Nat → Int) : Prop :=
  len = 0 ∨ ∃ b off, a = some ⟨b, off, none⟩ ∧ ∀ i, i < len → w.cell? ⟨b, off + i * 3, none⟩ = some (.int .i64 (R i)) ∧ w.cell? ⟨b, off + i * 3 + 1, none⟩ = some (.bool (A i)) ∧ w.cell? ⟨b, off + i * 3 + 2, none⟩ = some (.int .i64 (J i))

/-! ### zzB1One -/
theorem one_any (r p : Int) (a : Bool) (w : World) :
    Calls Try.prog 12 #[.agg #[.int .i64 r, .bool a, .int .i64 p]] w fun e w' => e = .returned (.agg #[.int .i64 r, .bool a, .int .i64 p]) ∧ Below w.heap.size w w' := by
  go_enter Try.func12, Try.ntmps12
  go_wp2
  exact bodyPost_ret (v := .agg #[.int .i64 r, .bool a, .int .i64 p]) (by simp [results, Try.results12, go_sem]) rfl ⟨rfl, ((Below.refl _ _).alloc (Nat.le_refl _) _).alloc (by simp) _⟩

/-- the new row N of n assignments, its first k elements filled -/
def Filled3 (w : World) (N n : Nat) (R : Nat → Int) (A : Nat → Bool) (J : Nat → Int) (k : Nat) : Prop :=
  ∃ f : Nat → Value, w.rowIs N 30 (n * 3) f ∧ ∀ i, i < k → f (i * 3) = .int .i64 (R i) ∧ f (i * 3 + 1) = .bool (A i) ∧ f (i * 3 + 2) = .int .i64 (J i)

theorem Filled3.cell {w : World} {N n k j : Nat} {R : Nat → Int} {A : Nat → Bool} {J : Nat → Int} (h : Filled3 w N n R A J k) (hj : j < n * 3) : ∃ v, w.cell? ⟨N, j, none⟩ = some v := by
  obtain ⟨f, hf, _⟩ := h
  exact ⟨_, hf.cell hj⟩
theorem Filled3.frozen {w : World} {N n k : Nat} {R : Nat → Int} {A : Nat → Bool} {J : Nat → Int} (h : Filled3 w N n R A J k) (j : Nat) : w.frozen? ⟨N, j, none⟩ = false := by
  obtain ⟨f, hf, _⟩ := h
  exact hf.frozen j
theorem Filled3.lt {w : World} {N n k : Nat} {R : Nat → Int} {A : Nat → Bool} {J : Nat → Int} (h : Filled3 w N n R A J k) : N < w.heap.size := by
  obtain ⟨f, hf, _⟩ := h
  exact hf.lt
theorem Filled3.kept {w w' : World} {B N n k : Nat} {R : Nat → Int} {A : Nat → Bool} {J : Nat → Int} (h : Filled3 w N n R A J k) (hb : Below B w w') (hN : N < B) : Filled3 w' N n R A J k := by
  obtain ⟨f, hf, h1⟩ := h
  exact ⟨f, hf.of_block (hb.block _ hN), h1⟩
theorem Filled3.congr {w : World} {N n k : Nat} {R R' : Nat → Int} {A A' : Nat → Bool} {J J' : Nat → Int} (h : Filled3 w N n R A J k) (hR : ∀ i, i < k → R i = R' i ∧ A i = A' i ∧ J i = J' i) : Filled3 w N n R' A' J' k := by
  obtain ⟨f, hf, h1⟩ := h
  refine ⟨f, hf, fun i hi => ?_⟩
  obtain ⟨a, b, c⟩ := hR i hi
  rw [← a, ← b, ← c]
  exact h1 i hi
theorem Filled3.step {w : World} {N n k : Nat} {R : Nat → Int} {A : Nat → Bool} {J : Nat → Int} (h : Filled3 w N n R A J k) {r j : Int} {a : Bool} (hr : r = R k) (ha : a = A k) (hj : j = J k) :
    Filled3 (((w.setCell ⟨N, k * 3, none⟩ (.int .i64 r)).setCell ⟨N, k * 3 + 1, none⟩ (.bool a)).setCell ⟨N, k * 3 + 2, none⟩ (.int .i64 j)) N n R A J (k + 1) := by
  obtain ⟨f, hf, h1⟩ := h
  refine ⟨_, ((hf.set _ _).set _ _).set _ _, fun i hi => ?_⟩
  by_cases e : i = k
  · subst e
    subst hr ha hj
    refine ⟨?_, ?_, ?_⟩
    · rw [if_neg (by omega), if_neg (by omega), if_pos rfl]
    · rw [if_neg (by omega), if_pos rfl]
    · rw [if_pos rfl]
  · obtain ⟨a1, a2, a3⟩ := h1 i (by omega)
    refine ⟨?_, ?_, ?_⟩
    · rw [if_neg (by omega), if_neg (by omega), if_neg (by omega)]; exact a1
    · rw [if_neg (by omega), if_neg (by omega), if_neg (by omega)]; exact a2
    · rw [if_neg (by omega), if_neg (by omega), if_neg (by omega)]; exact a3
theorem filled3_made (w : World) (n : Nat) (R : Nat → Int) (A : Nat → Bool) (J : Nat → Int) : Filled3 (w.alloc (.cells (made3 n) 30)) w.heap.size n R A J 0 := by
  have h := World.rowIs_alloc w (made3 n) 30 (fun i => (made3 n).getD i (.bool false)) (fun i hi => by simp [Array.getD, hi])
  have e : (made3 n).size = n * 3 := size_madeCells _ _
  rw [e] at h
  exact ⟨_, h, fun i hi => by omega⟩
theorem Filled3.view {w : World} {N n k : Nat} {R : Nat → Int} {A : Nat → Bool} {J : Nat → Int} (h : Filled3 w N n R A J k) (hk : k ≤ n) : ∀ i, i < k → w.cell? ⟨N, 0 + i * 3, none⟩ = some (.int .i64 (R i)) ∧ w.cell? ⟨N, 0 + i * 3 + 1, none⟩ = some (.bool (A i)) ∧ w.cell? ⟨N, 0 + i * 3 + 2, none⟩ = some (.int .i64 (J i)) := by
  obtain ⟨f, hf, h1⟩ := h
  intro i hi
  obtain ⟨a1, a2, a3⟩ := h1 i hi
  rw [Nat.zero_add, ← a1, ← a2, ← a3]
  exact ⟨hf.cell (by omega), hf.cell (by omega), hf.cell (by omega)⟩

set_option maxHeartbeats 1000000 in
theorem held_some (b off len cap : Nat) (R : Nat → Int) (A : Nat → Bool) (J : Nat → Int) (w : World) (hl : len ≤ 16384)
    (hc : ∀ i, i < len → w.cell? ⟨b, off + i * 3, none⟩ = some (.int .i64 (R i)) ∧ w.cell? ⟨b, off + i * 3 + 1, none⟩ = some (.bool (A i)) ∧ w.cell? ⟨b, off + i * 3 + 2, none⟩ = some (.int .i64 (J i))) :
    Calls Try.prog 9 #[.slice (some ⟨b, off, none⟩) len cap] w fun e w' => e = .returned (.slice (some ⟨w.heap.size, 0, none⟩) len len) ∧
      Filled3 w' w.heap.size len R A J len ∧ Below w.heap.size w w' := by
  have hmk := run_make30 len (by omega)
  have hne := fun (w : World) (a : Option Addr) (n c n' c' : Nat) => Lib.run_eql_slice_nil (P := Try.prog) w 22 24 a n c n' c' Try.underlying22
  go_enter Try.func9, Try.ntmps9
  go_wp2
  go_loopw [4] (fun i wr => ∃ k : Nat, k ≤ len ∧ i = .int .i64 (k : Int) ∧ Filled3 wr w.heap.size len R A J k ∧ Below w.heap.size w wr) (fun i _ => len - (intOf i).toNat)
  case atStart => exact ⟨0, by omega, rfl, filled3_made w len R A J, (Below.refl _ _).alloc (Nat.le_refl _) _⟩
  case round =>
    obtain ⟨k, hk, rfl, hf, hb⟩ := hrel
    by_cases hlt : k < len
    · have h3 := hc k hlt
      have hc0 : wr.cell? ⟨b, off + k * 3, none⟩ = some (.int .i64 (R k)) := (hb.cell (block_lt_of_cell h3.1)).trans h3.1
      have hc1 : wr.cell? ⟨b, off + k * 3 + 1, none⟩ = some (.bool (A k)) := (hb.cell (block_lt_of_cell h3.2.1)).trans h3.2.1
      have hc2 : wr.cell? ⟨b, off + k * 3 + 2, none⟩ = some (.int .i64 (J k)) := (hb.cell (block_lt_of_cell h3.2.2)).trans h3.2.2
      clear h3
      go_wp2_with fail
      refine (one_any _ _ _ _).mono ?_
      rintro e w1 ⟨rfl, hb1⟩
      have hf1 := hf.kept hb1 hf.lt
      have hb2 := hb.trans (hb1.mono hb.size)
      obtain ⟨v0, hv0⟩ := hf1.cell (j := k * 3) (by omega)
      obtain ⟨v1, hv1⟩ := hf1.cell (j := k * 3 + 1) (by omega)
      obtain ⟨v2, hv2⟩ := hf1.cell (j := k * 3 + 2) (by omega)
      have hz0 := hf1.frozen (k * 3)
      have hz1 := hf1.frozen (k * 3 + 1)
      have hz2 := hf1.frozen (k * 3 + 2)
      clear hc0 hc1 hc2
      go_wp2
      go_roundw
      case rel => exact ⟨k + 1, by omega, by go_num, hf1.step rfl rfl rfl, ((hb2.setCell (Nat.le_refl _) _).setCell (Nat.le_refl _) _).setCell (Nat.le_refl _) _⟩
      case measure => simp [intOf]; omega
    · obtain rfl : len = k := by omega
      go_wp2
      go_ret
      exact ⟨rfl, hf, hb⟩
end Go.Proofs.Qxb6618129a
