import Derived.Test.Qxb6618129aOwn
import Derived.Deep.DeepCutAuto
namespace Go.Proofs.Qxb6618129a
open Go.RowKit

/-! ### plain laws -/
theorem has_iff {m : Nat} {Q : Nat → Int} {v : Int} : hasB m Q v = true ↔ ∃ i, i < m ∧ Q i = v := by simp [hasB, List.any_eq_true]
theorem hasB_ins (m j : Nat) (Q : Nat → Int) (r v : Int) (h : j ≤ m) : hasB (m + 1) (ins Q j r) v = (hasB m Q v || hasB 1 (fun _ => r) v) := by
  rw [Bool.eq_iff_iff, Bool.or_eq_true, has_iff, has_iff, has_iff]
  constructor
  · rintro ⟨x, hx, h1⟩
    by_cases e : x < j
    · rw [← ins_lt _ _ _ e] at h1
      exact .inl ⟨x, by omega, h1⟩
    · by_cases e2 : x = j
      · subst e2
        rw [← ins_at] at h1
        exact .inr ⟨0, by omega, h1⟩
      · obtain ⟨y, rfl⟩ : ∃ y, x = y + 1 := ⟨x - 1, by omega⟩
        rw [← ins_gt _ _ _ (by omega)] at h1
        exact .inl ⟨y, by omega, h1⟩
  · rintro (⟨x, hx, h1⟩ | ⟨_, _, h1⟩)
    · by_cases e : x < j
      · exact ⟨x, by omega, by rw [← ins_lt _ _ _ e]; exact h1⟩
      · exact ⟨x + 1, by omega, by rw [← ins_gt _ _ _ (by omega)]; exact h1⟩
    · exact ⟨j, by omega, by rw [← ins_at]; exact h1⟩
theorem hldB_roles (n : Nat) (R J : Nat → Int) (m j : Nat) (Q : Nat → Int) (r p : Int) (h : j ≤ m) :
    hldB n R J (m + 1) (ins Q j r) p = (hldB n R J m Q p || hldB n R J 1 (fun _ => r) p) := by
  rw [Bool.eq_iff_iff, Bool.or_eq_true, any_iff, any_iff, any_iff]
  constructor
  · rintro ⟨x, hx, h1, h2⟩
    rw [hasB_ins m j Q r _ h, Bool.or_eq_true] at h2
    rcases h2 with h2 | h2
    · exact .inl ⟨x, hx, h1, h2⟩
    · exact .inr ⟨x, hx, h1, h2⟩
  · rintro (⟨x, hx, h1, h2⟩ | ⟨x, hx, h1, h2⟩)
    · exact ⟨x, hx, h1, by rw [hasB_ins m j Q r _ h, h2, Bool.true_or]⟩
    · exact ⟨x, hx, h1, by rw [hasB_ins m j Q r _ h, h2, Bool.or_true]⟩
theorem hldB_both (n i : Nat) (R J : Nat → Int) (r q : Int) (m j : Nat) (Q : Nat → Int) (p : Int) (hi : i ≤ n) (hj : j ≤ m) :
    hldB (n + 1) (ins R i r) (ins J i q) (m + 1) (ins Q j r) p = (hldB n R J (m + 1) (ins Q j r) p || cntB q p) := by
  rw [hldB_ins n i R J r q (m + 1) (ins Q j r) p hi]
  have : hasB (m + 1) (ins Q j r) r = true := by rw [hasB_ins m j Q r r hj]; simp [hasB]
  rw [this, Bool.and_true]

/-! ### zzB1InsertRole -/
/-- the new row N of n numbers, its first k filled -/
def Filled1 (w : World) (N n : Nat) (z : Nat → Int) (k : Nat) : Prop := ∃ f : Nat → Value, w.rowIs N 2 n f ∧ ∀ i, i < k → f i = .int .i64 (z i)
theorem Filled1.cell {w : World} {N n k j : Nat} {z : Nat → Int} (h : Filled1 w N n z k) (hj : j < n) : ∃ v, w.cell? ⟨N, j, none⟩ = some v := by
  obtain ⟨f, hf, _⟩ := h
  exact ⟨_, hf.cell hj⟩
theorem Filled1.frozen {w : World} {N n k : Nat} {z : Nat → Int} (h : Filled1 w N n z k) (j : Nat) : w.frozen? ⟨N, j, none⟩ = false := by
  obtain ⟨f, hf, _⟩ := h
  exact hf.frozen j
theorem Filled1.step {w : World} {N n k : Nat} {z : Nat → Int} (h : Filled1 w N n z k) {v : Int} (hv : v = z k) : Filled1 (w.setCell ⟨N, k, none⟩ (.int .i64 v)) N n z (k + 1) := by
  obtain ⟨f, hf, h1⟩ := h
  refine ⟨_, hf.set _ _, fun i hi => ?_⟩
  by_cases e : i = k
  · subst e; rw [if_pos rfl, hv]
  · rw [if_neg e]; exact h1 i (by omega)
theorem filled1_made (w : World) (n : Nat) (z : Nat → Int) : Filled1 (w.alloc (.cells (madeCells #[.int .i64 0] n) 2)) w.heap.size n z 0 :=
  ⟨_, World.rowIs_made w (.int .i64 0) n 2, fun i hi => by omega⟩
theorem Filled1.view {w : World} {N n k : Nat} {z : Nat → Int} (h : Filled1 w N n z k) (hk : k ≤ n) : RolesV w (some ⟨N, 0, none⟩) k z := by
  obtain ⟨f, hf, h1⟩ := h
  refine .inr ⟨N, 0, rfl, fun i hi => ?_⟩
  rw [Nat.zero_add, ← h1 i hi]
  exact hf.cell (by omega)

set_option maxHeartbeats 2000000 in
theorem insertRole_any (a : Option Addr) (m c j : Nat) (Q : Nat → Int) (r : Int) (w : World) (hl : m ≤ 65536) (hj : j ≤ m) (hr : RolesV w a m Q) :
    Calls Try.prog 17 #[.slice a m c, .int .i64 (j : Int), .int .i64 r] w fun e w' => e = .returned (.slice (some ⟨w.heap.size, 0, none⟩) (m + 1) (m + 1)) ∧
      Filled1 w' w.heap.size (m + 1) (ins Q j r) (m + 1) ∧ Below w.heap.size w w' := by
  have hmk := run_make_row' (P := Try.prog) 32 2 (.int .i64 0) 8 Try.underlying32 info2 rfl .i64 .i64 (m + 1) (by omega) (by omega)
  rw [Int.natCast_add] at hmk
  have hcast : ((1 : Nat) : Int) = 1 := rfl
  rw [hcast] at hmk
  clear hcast
  have hh' : m ≤ 0 ∨ ∃ b off, a = some ⟨b, off, none⟩ ∧ ∀ i, i < m → w.cell? ⟨b, off + i, none⟩ = some (.int .i64 (Q i)) := by
    rcases hr with h | h
    · exact .inl (by omega)
    · exact .inr h
  clear hr
  rcases hh' with hlz | ⟨b, off, rfl, hc⟩
  all_goals
    go_enter Try.func17, Try.ntmps17
    go_wp2
    go_loopw [8] (fun n wr => ∃ k : Nat, k ≤ j ∧ n = .int .i64 (k : Int) ∧ Filled1 wr w.heap.size (m + 1) (ins Q j r) k ∧ Below w.heap.size w wr) (fun n _ => j - (intOf n).toNat)
    case atStart => exact ⟨0, by omega, rfl, filled1_made w _ _, (Below.refl _ _).alloc (by simp) _⟩
    case round =>
      obtain ⟨k, hk, rfl, hf, hb⟩ := hrel
      by_cases hlt : k < j
      · first
          | (exfalso; omega)
          | have h3 := hc k (by omega)
            have hc0 : wr.cell? ⟨b, off + k, none⟩ = some (.int .i64 (Q k)) := (hb.cell (block_lt_of_cell h3)).trans h3
            obtain ⟨v0, hv0⟩ := hf.cell (j := k) (by omega)
            have hz0 := hf.frozen k
            clear h3
            go_wp2
            go_roundw
            case rel => exact ⟨k + 1, by omega, by go_num, hf.step (ins_lt _ _ _ hlt), hb.setCell (Nat.le_refl _) _⟩
            case measure => simp [intOf]; omega
      · obtain rfl : j = k := by omega
        obtain ⟨v0, hv0⟩ := hf.cell (j := j) (by omega)
        have hz0 := hf.frozen j
        go_wp2
        go_loopw [9] (fun n wr => ∃ k : Nat, j ≤ k ∧ k ≤ m ∧ n = .int .i64 (k : Int) ∧ Filled1 wr w.heap.size (m + 1) (ins Q j r) (k + 1) ∧ Below w.heap.size w wr) (fun n _ => m - (intOf n).toNat)
        case atStart => exact ⟨j, by omega, by omega, rfl, hf.step (ins_at _ _ _), hb.setCell (Nat.le_refl _) _⟩
        case round =>
          clear hv0 hz0 hf hb
          obtain ⟨k, hik, hk, rfl, hf, hb⟩ := hrel
          by_cases hlt : k < m
          · first
              | (exfalso; omega)
              | have h3 := hc k (by omega)
                have hc0 : wr.cell? ⟨b, off + k, none⟩ = some (.int .i64 (Q k)) := (hb.cell (block_lt_of_cell h3)).trans h3
                obtain ⟨v0, hv0⟩ := hf.cell (j := k + 1) (by omega)
                have hz0 := hf.frozen (k + 1)
                clear h3
                go_wp2
                go_roundw
                case rel => exact ⟨k + 1, by omega, by omega, by go_num, hf.step (ins_gt _ _ _ hik), hb.setCell (Nat.le_refl _) _⟩
                case measure => simp [intOf]; omega
          · obtain rfl : m = k := by omega
            go_wp2
            go_ret
            exact ⟨rfl, hf, hb⟩

/-! ### zzBytes_FnHoldsInGrantingARole -/
theorem bytes16_yes (a0 a1 : Option Addr) (l0 c0 l1 c1 : Nat) (p r q i j : Int) (ad : Bool) (w : World) (h : l0 + l1 ≤ 1048576) :
    Calls Try.prog 16 #[.slice a0 l0 c0, .slice a1 l1 c1, .int .i64 p, .int .i64 r, .int .i64 q, .bool ad, .int .i64 i, .int .i64 j] w fun e w' => e = .returned (.bool true) ∧ w' = w := by
  go_enter Try.func16, Try.ntmps16
  go_wp2
  go_ret
  exact ⟨rfl, rfl⟩
theorem bytes16_no (a0 a1 : Option Addr) (l0 c0 l1 c1 : Nat) (p r q i j : Int) (ad : Bool) (w : World) (m0 : l0 ≤ maxLen) (m1 : l1 ≤ maxLen) (h : 1048576 < l0 + l1) :
    Calls Try.prog 16 #[.slice a0 l0 c0, .slice a1 l1 c1, .int .i64 p, .int .i64 r, .int .i64 q, .bool ad, .int .i64 i, .int .i64 j] w fun e w' => e = .returned (.bool false) ∧ w' = w := by
  unfold maxLen at m0 m1
  by_cases h0 : 1048576 < l0
  · go_enter Try.func16, Try.ntmps16
    go_wp2
    go_ret
    exact ⟨rfl, rfl⟩
  · by_cases h1 : 1048576 < l1
    · go_enter Try.func16, Try.ntmps16
      go_wp2
      go_ret
      exact ⟨rfl, rfl⟩
    · go_enter Try.func16, Try.ntmps16
      go_wp2
      go_ret
      exact ⟨rfl, rfl⟩
end Go.Proofs.Qxb6618129a
