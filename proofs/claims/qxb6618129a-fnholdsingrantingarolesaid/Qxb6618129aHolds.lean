import Derived.Test.Qxb6618129aBase
namespace Go.Proofs.Qxb6618129a
open Go.RowKit

/-! ### plain -/
/-- is v among the first m of Q? -/
def hasB (m : Nat) (Q : Nat → Int) (v : Int) : Bool := (List.range m).any fun i => Q i == v
theorem hasB_succ (m : Nat) (Q : Nat → Int) (v : Int) : hasB (m + 1) Q v = (hasB m Q v || (Q m == v)) := by simp [hasB, List.range_succ]
theorem hasB_mono (m n : Nat) (Q : Nat → Int) (v : Int) (h : m ≤ n) (hm : hasB m Q v = true) : hasB n Q v = true := by
  simp only [hasB, List.any_eq_true, List.mem_range] at hm ⊢
  obtain ⟨i, hi, h2⟩ := hm
  exact ⟨i, by omega, h2⟩
/-- does an assignment in project j count in project p? -/
def cntB (j p : Int) : Bool := decide (j = 0 ∨ j = p)
/-- does one of the first n assignments hold one of the roles in project p? -/
def hldB (n : Nat) (R J : Nat → Int) (m : Nat) (Q : Nat → Int) (p : Int) : Bool := (List.range n).any fun i => cntB (J i) p && hasB m Q (R i)
theorem hldB_succ (n : Nat) (R J : Nat → Int) (m : Nat) (Q : Nat → Int) (p : Int) : hldB (n + 1) R J m Q p = (hldB n R J m Q p || (cntB (J n) p && hasB m Q (R n))) := by simp [hldB, List.range_succ]
theorem hldB_mono (k n : Nat) (R J : Nat → Int) (m : Nat) (Q : Nat → Int) (p : Int) (h : k ≤ n) (hm : hldB k R J m Q p = true) : hldB n R J m Q p = true := by
  simp only [hldB, List.any_eq_true, List.mem_range] at hm ⊢
  obtain ⟨i, hi, h2⟩ := hm
  exact ⟨i, by omega, h2⟩

/-- WHAT IS KNOWN OF A SLICE OF ROLES -/
def RolesV (w : World) (a : Option Addr) (m : Nat) (Q : Nat → Int) : Prop :=
  m = 0 ∨ ∃ b off, a = some ⟨b, off, none⟩ ∧ ∀ i, i < m → w.cell? ⟨b, off + i, none⟩ = some (.int .i64 (Q i))
theorem RolesV.kept {w w' : World} {a : Option Addr} {m : Nat} {Q : Nat → Int} (h : RolesV w a m Q) (hb : Below w.heap.size w w') : RolesV w' a m Q := by
  rcases h with h | ⟨b, off, ha, hc⟩
  · exact .inl h
  · exact .inr ⟨b, off, ha, fun i hi => (hb.cell (block_lt_of_cell (hc i hi))).trans (hc i hi)⟩
theorem HeldV.kept {w w' : World} {a : Option Addr} {len : Nat} {R : Nat → Int} {A : Nat → Bool} {J : Nat → Int} (h : HeldV w a len R A J) (hb : Below w.heap.size w w') : HeldV w' a len R A J := by
  rcases h with h | ⟨b, off, ha, hc⟩
  · exact .inl h
  · refine .inr ⟨b, off, ha, fun i hi => ?_⟩
    obtain ⟨h1, h2, h3⟩ := hc i hi
    exact ⟨(hb.cell (block_lt_of_cell h1)).trans h1, (hb.cell (block_lt_of_cell h2)).trans h2, (hb.cell (block_lt_of_cell h3)).trans h3⟩

/-! ### slices.Index, slices.Contains -/
theorem index_zero (a : Option Addr) (c : Nat) (v : Int) (w : World) :
    Calls Try.prog 25 #[.slice a 0 c, .int .i64 v] w fun e w' => e = .returned (.int .i64 (-1)) ∧ w' = w := by
  go_enter Try.func25, Try.ntmps25
  go_wp2
  refine wp_loop_rounds 1 ?_
  rw [rounds_succ]
  go_wp2
  go_ret
  exact ⟨rfl, rfl⟩

set_option maxHeartbeats 400000 in
theorem index_pos (b off m c : Nat) (Q : Nat → Int) (v : Int) (w : World) (hm : m ≤ 9223372036854775807) (hc : ∀ i, i < m → w.cell? ⟨b, off + i, none⟩ = some (.int .i64 (Q i))) :
    Calls Try.prog 25 #[.slice (some ⟨b, off, none⟩) m c, .int .i64 v] w fun e w' => ∃ n : Int, e = .returned (.int .i64 n) ∧ decide (0 ≤ n) = hasB m Q v ∧ w' = w := by
  go_enter Try.func25, Try.ntmps25
  go_wp2
  go_loop [8] (fun i => ∃ k : Nat, k ≤ m ∧ i = .int .i64 (k : Int) ∧ hasB k Q v = false) (fun i => m - (intOf i).toNat)
  case atStart => exact ⟨0, by omega, rfl, rfl⟩
  case round =>
    obtain ⟨k, hk, rfl, hh⟩ := hrel
    have hs := hasB_succ k Q v
    rw [hh, Bool.false_or] at hs
    by_cases hlt : k < m
    · have hck := hc k hlt
      by_cases hq : v = Q k
      · have hv : (v == Q k) = true := by simp [hq]
        have HT : Hid (hasB m Q v = true) := hasB_mono (k + 1) m Q v (by omega) (by rw [hs]; simp [hq])
        clear hs hh hq
        go_wp2
        go_ret
        exact ⟨k, rfl, by rw [HT.out]; simp, rfl⟩
      · have hv : (v == Q k) = false := by simp [hq]
        have HT : Hid (hasB (k + 1) Q v = false) := by show _ = _; rw [hs]; simp; exact fun h => hq h.symm
        clear hs hh hq
        go_wp2
        go_round
        case rel => exact ⟨k + 1, by omega, by go_num, HT.out⟩
        case measure => simp [intOf]; omega
    · obtain rfl : m = k := by omega
      have HT : Hid (hasB m Q v = false) := hh
      clear hs hh
      go_wp2
      go_ret
      exact ⟨-1, rfl, by rw [HT.out]; rfl, rfl⟩

theorem contains_any (a : Option Addr) (m c : Nat) (Q : Nat → Int) (v : Int) (w : World) (hm : m ≤ 9223372036854775807) (h : RolesV w a m Q) :
    Calls Try.prog 24 #[.slice a m c, .int .i64 v] w fun e w' => e = .returned (.bool (hasB m Q v)) ∧ w' = w := by
  rcases h with rfl | ⟨b, off, rfl, hc⟩
  · go_enter Try.func24, Try.ntmps24
    go_wp2_with (go_at_call 25; refine (index_zero _ _ _ _).mono ?_; rintro e w' ⟨rfl, hw⟩; subst w')
    go_ret
    exact ⟨rfl, rfl⟩
  · go_enter Try.func24, Try.ntmps24
    go_wp2_with (go_at_call 25; refine (index_pos _ _ _ _ Q _ _ hm hc).mono ?_; rintro e w' ⟨n, rfl, hn, hw⟩; subst w')
    go_ret
    exact ⟨by rw [← hn]; rfl, rfl⟩

/-! ### zzB1HasRole -/
set_option maxHeartbeats 400000 in
theorem hasRole_any (a : Option Addr) (m c : Nat) (Q : Nat → Int) (v : Int) (w : World) (hm : m ≤ 9223372036854775807) (h : RolesV w a m Q) :
    Calls Try.prog 15 #[.slice a m c, .int .i64 v] w fun e w' => e = .returned (.bool (hasB m Q v)) ∧ w' = w := by
  rcases h with rfl | ⟨b, off, rfl, hc⟩
  · go_enter Try.func15, Try.ntmps15
    go_wp2
    refine wp_loop_rounds 1 ?_
    rw [rounds_succ]
    go_wp2
    go_ret
    exact ⟨rfl, rfl⟩
  · go_enter Try.func15, Try.ntmps15
    go_wp2
    go_loop [5] (fun i => ∃ k : Nat, k ≤ m ∧ i = .int .i64 (k : Int) ∧ hasB k Q v = false) (fun i => m - (intOf i).toNat)
    case atStart => exact ⟨0, by omega, rfl, rfl⟩
    case round =>
      obtain ⟨k, hk, rfl, hh⟩ := hrel
      have hs := hasB_succ k Q v
      rw [hh, Bool.false_or] at hs
      by_cases hlt : k < m
      · have hck := hc k hlt
        cases hv : (Q k == v) with
        | true =>
          have HT : Hid (hasB m Q v = true) := hasB_mono (k + 1) m Q v (by omega) (by rw [hs, hv])
          clear hs hh
          go_wp2
          go_ret
          exact ⟨by rw [HT.out]; rfl, rfl⟩
        | false =>
          have HT : Hid (hasB (k + 1) Q v = false) := by show _ = _; rw [hs, hv]
          clear hs hh
          go_wp2
          go_round
          case rel => exact ⟨k + 1, by omega, by go_num, HT.out⟩
          case measure => simp [intOf]; omega
      · obtain rfl : m = k := by omega
        have HT : Hid (hasB m Q v = false) := hh
        clear hs hh
        go_wp2
        go_ret
        exact ⟨by rw [HT.out]; rfl, rfl⟩

/-! ### countsIn -/
theorem counts_any (r j p : Int) (a : Bool) (w : World) :
    Calls Try.prog 23 #[.agg #[.int .i64 r, .bool a, .int .i64 j], .int .i64 p] w fun e w' => e = .returned (.bool (cntB j p)) ∧ Below w.heap.size w w' := by
  by_cases h0 : j = 0
  · have hb : cntB j p = true := by unfold cntB; simp [h0]
    have e0 : (j == 0) = true := by simp [h0]
    rw [hb]
    clear h0
    go_enter Try.func23, Try.ntmps23
    go_wp2
    go_ret
    exact ⟨rfl, (Below.refl _ _).alloc (Nat.le_refl _) _⟩
  · have e0 : (j == 0) = false := by simp [h0]
    by_cases h1 : j = p
    · have hb : cntB j p = true := by unfold cntB; simp [h1]
      have e1 : (j == p) = true := by simp [h1]
      rw [hb]
      clear h0 h1
      go_enter Try.func23, Try.ntmps23
      go_wp2
      go_ret
      exact ⟨rfl, (Below.refl _ _).alloc (Nat.le_refl _) _⟩
    · have hb : cntB j p = false := by unfold cntB; simp [h0, h1]
      have e1 : (j == p) = false := by simp [h1]
      rw [hb]
      clear h0 h1
      go_enter Try.func23, Try.ntmps23
      go_wp2
      go_ret
      exact ⟨rfl, (Below.refl _ _).alloc (Nat.le_refl _) _⟩
end Go.Proofs.Qxb6618129a
