import Derived.Test.Qxb6618129aHoldsIn
namespace Go.Proofs.Qxb6618129a
open Go.RowKit

/-- f with x put in at place i -/
def ins {α : Type} (f : Nat → α) (i : Nat) (x : α) : Nat → α := fun n => if n < i then f n else if n = i then x else f (n - 1)
theorem ins_lt {α : Type} (f : Nat → α) (i : Nat) (x : α) {n : Nat} (h : n < i) : f n = ins f i x n := by simp [ins, h]
theorem ins_at {α : Type} (f : Nat → α) (i : Nat) (x : α) : x = ins f i x i := by simp [ins]
theorem ins_gt {α : Type} (f : Nat → α) (i : Nat) (x : α) {n : Nat} (h : i ≤ n) : f n = ins f i x (n + 1) := by
  unfold ins; rw [if_neg (by omega), if_neg (by omega)]; rfl

theorem filled3_at (w : World) (N n : Nat) (R : Nat → Int) (A : Nat → Bool) (J : Nat → Int) (h : w.heap.size = N) : Filled3 (w.alloc (.cells (made3 n) 30)) N n R A J 0 := by
  subst h; exact filled3_made w n R A J

set_option maxHeartbeats 2000000 in
theorem insert_any (a : Option Addr) (len cap i : Nat) (R : Nat → Int) (A : Nat → Bool) (J : Nat → Int) (r j : Int) (ad : Bool) (w : World) (hl : len ≤ 16384) (hi : i ≤ len) (hh : HeldV w a len R A J) :
    Calls Try.prog 11 #[.slice a len cap, .int .i64 (i : Int), .agg #[.int .i64 r, .bool ad, .int .i64 j]] w fun e w' => e = .returned (.slice (some ⟨w.heap.size + 1, 0, none⟩) (len + 1) (len + 1)) ∧
      Filled3 w' (w.heap.size + 1) (len + 1) (ins R i r) (ins A i ad) (ins J i j) (len + 1) ∧ Below w.heap.size w w' := by
  have hmk := run_make30 (len + 1) (by omega)
  rw [Int.natCast_add] at hmk
  have hcast : ((1 : Nat) : Int) = 1 := rfl
  rw [hcast] at hmk
  clear hcast
  have hh' : len ≤ 0 ∨ ∃ b off, a = some ⟨b, off, none⟩ ∧ ∀ i, i < len → w.cell? ⟨b, off + i * 3, none⟩ = some (.int .i64 (R i)) ∧ w.cell? ⟨b, off + i * 3 + 1, none⟩ = some (.bool (A i)) ∧ w.cell? ⟨b, off + i * 3 + 2, none⟩ = some (.int .i64 (J i)) := by
    rcases hh with h | h
    · exact .inl (by omega)
    · exact .inr h
  clear hh
  rcases hh' with hlz | ⟨b, off, rfl, hc⟩
  all_goals
    go_enter Try.func11, Try.ntmps11
    go_wp2
    go_loopw [8] (fun n wr => ∃ k : Nat, k ≤ i ∧ n = .int .i64 (k : Int) ∧ Filled3 wr (w.heap.size + 1) (len + 1) (ins R i r) (ins A i ad) (ins J i j) k ∧ Below (w.heap.size + 1) (w.alloc (.cells #[.int .i64 r, .bool ad, .int .i64 j] 30)) wr) (fun n _ => i - (intOf n).toNat)
    case atStart => exact ⟨0, by omega, rfl, filled3_at _ _ _ _ _ _ (by simp), (Below.refl _ _).alloc (by simp) _⟩
    case round =>
      obtain ⟨k, hk, rfl, hf, hb⟩ := hrel
      by_cases hlt : k < i
      · first
          | (exfalso; omega)
          | have h3 := hc k (by omega)
            have hbw : Below w.heap.size w wr := ((Below.refl _ _).alloc (Nat.le_refl _) _).trans (hb.mono (by omega))
            have hc0 : wr.cell? ⟨b, off + k * 3, none⟩ = some (.int .i64 (R k)) := (hbw.cell (block_lt_of_cell h3.1)).trans h3.1
            have hc1 : wr.cell? ⟨b, off + k * 3 + 1, none⟩ = some (.bool (A k)) := (hbw.cell (block_lt_of_cell h3.2.1)).trans h3.2.1
            have hc2 : wr.cell? ⟨b, off + k * 3 + 2, none⟩ = some (.int .i64 (J k)) := (hbw.cell (block_lt_of_cell h3.2.2)).trans h3.2.2
            obtain ⟨v0, hv0⟩ := hf.cell (j := k * 3) (by omega)
            obtain ⟨v1, hv1⟩ := hf.cell (j := k * 3 + 1) (by omega)
            obtain ⟨v2, hv2⟩ := hf.cell (j := k * 3 + 2) (by omega)
            have hz0 := hf.frozen (k * 3)
            have hz1 := hf.frozen (k * 3 + 1)
            have hz2 := hf.frozen (k * 3 + 2)
            clear h3 hbw
            go_wp2
            go_roundw
            case rel => exact ⟨k + 1, by omega, by go_num, hf.step (ins_lt _ _ _ hlt) (ins_lt _ _ _ hlt) (ins_lt _ _ _ hlt), ((hb.setCell (Nat.le_refl _) _).setCell (Nat.le_refl _) _).setCell (Nat.le_refl _) _⟩
            case measure => simp [intOf]; omega
      · obtain rfl : i = k := by omega
        have hx0 : wr.cell? ⟨w.heap.size, 0, none⟩ = some (.int .i64 r) := by rw [hb.cell (p := ⟨w.heap.size, 0, none⟩) (by simp)]; simp
        have hx1 : wr.cell? ⟨w.heap.size, 1, none⟩ = some (.bool ad) := by rw [hb.cell (p := ⟨w.heap.size, 1, none⟩) (by simp)]; simp
        have hx2 : wr.cell? ⟨w.heap.size, 2, none⟩ = some (.int .i64 j) := by rw [hb.cell (p := ⟨w.heap.size, 2, none⟩) (by simp)]; simp
        obtain ⟨v0, hv0⟩ := hf.cell (j := i * 3) (by omega)
        obtain ⟨v1, hv1⟩ := hf.cell (j := i * 3 + 1) (by omega)
        obtain ⟨v2, hv2⟩ := hf.cell (j := i * 3 + 2) (by omega)
        have hz0 := hf.frozen (i * 3)
        have hz1 := hf.frozen (i * 3 + 1)
        have hz2 := hf.frozen (i * 3 + 2)
        go_wp2
        go_loopw [9] (fun n wr => ∃ k : Nat, i ≤ k ∧ k ≤ len ∧ n = .int .i64 (k : Int) ∧ Filled3 wr (w.heap.size + 1) (len + 1) (ins R i r) (ins A i ad) (ins J i j) (k + 1) ∧ Below (w.heap.size + 1) (w.alloc (.cells #[.int .i64 r, .bool ad, .int .i64 j] 30)) wr) (fun n _ => len - (intOf n).toNat)
        case atStart => exact ⟨i, by omega, by omega, rfl, hf.step (ins_at _ _ _) (ins_at _ _ _) (ins_at _ _ _), ((hb.setCell (Nat.le_refl _) _).setCell (Nat.le_refl _) _).setCell (Nat.le_refl _) _⟩
        case round =>
          clear hx0 hx1 hx2 hv0 hv1 hv2 hz0 hz1 hz2 hf hb
          obtain ⟨k, hik, hk, rfl, hf, hb⟩ := hrel
          by_cases hlt : k < len
          · first
              | (exfalso; omega)
              | have h3 := hc k (by omega)
                have hbw : Below w.heap.size w wr := ((Below.refl _ _).alloc (Nat.le_refl _) _).trans (hb.mono (by omega))
                have hc0 : wr.cell? ⟨b, off + k * 3, none⟩ = some (.int .i64 (R k)) := (hbw.cell (block_lt_of_cell h3.1)).trans h3.1
                have hc1 : wr.cell? ⟨b, off + k * 3 + 1, none⟩ = some (.bool (A k)) := (hbw.cell (block_lt_of_cell h3.2.1)).trans h3.2.1
                have hc2 : wr.cell? ⟨b, off + k * 3 + 2, none⟩ = some (.int .i64 (J k)) := (hbw.cell (block_lt_of_cell h3.2.2)).trans h3.2.2
                obtain ⟨v0, hv0⟩ := hf.cell (j := (k + 1) * 3) (by omega)
                obtain ⟨v1, hv1⟩ := hf.cell (j := (k + 1) * 3 + 1) (by omega)
                obtain ⟨v2, hv2⟩ := hf.cell (j := (k + 1) * 3 + 2) (by omega)
                have hz0 := hf.frozen ((k + 1) * 3)
                have hz1 := hf.frozen ((k + 1) * 3 + 1)
                have hz2 := hf.frozen ((k + 1) * 3 + 2)
                clear h3 hbw
                go_wp2
                go_roundw
                case rel => exact ⟨k + 1, by omega, by omega, by go_num, hf.step (ins_gt _ _ _ hik) (ins_gt _ _ _ hik) (ins_gt _ _ _ hik), ((hb.setCell (Nat.le_refl _) _).setCell (Nat.le_refl _) _).setCell (Nat.le_refl _) _⟩
                case measure => simp [intOf]; omega
          · obtain rfl : len = k := by omega
            go_wp2
            go_ret
            exact ⟨rfl, hf, ((Below.refl _ _).alloc (Nat.le_refl _) _).trans (hb.mono (by omega))⟩
end Go.Proofs.Qxb6618129a
