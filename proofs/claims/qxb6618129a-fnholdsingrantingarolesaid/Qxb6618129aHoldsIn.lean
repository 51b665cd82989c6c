import Derived.Test.Qxb6618129aHolds
namespace Go.Proofs.Qxb6618129a
open Go.RowKit

theorem holds_zero (a : Option Addr) (c : Nat) (R J : Nat → Int) (ar : Option Addr) (m cr : Nat) (Q : Nat → Int) (p : Int) (w : World) :
    Calls Try.prog 22 #[.slice a 0 c, .slice ar m cr, .int .i64 p] w fun e w' => e = .returned (.bool (hldB 0 R J m Q p)) ∧ Below w.heap.size w w' := by
  go_enter Try.func22, Try.ntmps22
  go_wp2
  refine wp_loop_rounds 1 ?_
  rw [rounds_succ]
  go_wp2
  go_ret
  exact ⟨rfl, Below.refl _ _⟩

set_option maxHeartbeats 1000000 in
theorem holds_pos (b off len cap : Nat) (R : Nat → Int) (A : Nat → Bool) (J : Nat → Int) (ar : Option Addr) (m cr : Nat) (Q : Nat → Int) (p : Int) (w : World) (hl : len ≤ 9223372036854775807) (hm : m ≤ 9223372036854775807) (hr : RolesV w ar m Q)
    (hc : ∀ i, i < len → w.cell? ⟨b, off + i * 3, none⟩ = some (.int .i64 (R i)) ∧ w.cell? ⟨b, off + i * 3 + 1, none⟩ = some (.bool (A i)) ∧ w.cell? ⟨b, off + i * 3 + 2, none⟩ = some (.int .i64 (J i))) :
    Calls Try.prog 22 #[.slice (some ⟨b, off, none⟩) len cap, .slice ar m cr, .int .i64 p] w fun e w' => e = .returned (.bool (hldB len R J m Q p)) ∧ Below w.heap.size w w' := by
  go_enter Try.func22, Try.ntmps22
  go_wp2
  go_loopw [11] (fun i wr => ∃ k : Nat, k ≤ len ∧ i = .int .i64 (k : Int) ∧ hldB k R J m Q p = false ∧ Below w.heap.size w wr) (fun i _ => len - (intOf i).toNat)
  case atStart => exact ⟨0, by omega, rfl, rfl, Below.refl _ _⟩
  case round =>
    obtain ⟨k, hk, rfl, hh, hb⟩ := hrel
    have hs := hldB_succ k R J m Q p
    rw [hh, Bool.false_or] at hs
    by_cases hlt : k < len
    · have h3 := hc k hlt
      have hc0 : wr.cell? ⟨b, off + k * 3, none⟩ = some (.int .i64 (R k)) := (hb.cell (block_lt_of_cell h3.1)).trans h3.1
      have hc1 : wr.cell? ⟨b, off + k * 3 + 1, none⟩ = some (.bool (A k)) := (hb.cell (block_lt_of_cell h3.2.1)).trans h3.2.1
      have hc2 : wr.cell? ⟨b, off + k * 3 + 2, none⟩ = some (.int .i64 (J k)) := (hb.cell (block_lt_of_cell h3.2.2)).trans h3.2.2
      have hsz := hb.size
      clear h3 hh
      cases hcn : cntB (J k) p with
      | false =>
        have HT : Hid (hldB (k + 1) R J m Q p = false) := by rw [hcn, Bool.false_and] at hs; exact hs
        clear hs
        go_wp2_with fail
        refine (counts_any _ _ _ _ _).mono ?_
        rintro e w1 ⟨rfl, hb1⟩
        have hb2 := (hb.alloc hsz _).trans (hb1.mono (by simp; omega))
        go_wp2
        go_roundw
        case rel => exact ⟨k + 1, by omega, by go_num, HT.out, hb2⟩
        case measure => simp [intOf]; omega
      | true =>
        rw [hcn, Bool.true_and] at hs
        cases hha : hasB m Q (R k) with
        | false =>
          have HT : Hid (hldB (k + 1) R J m Q p = false) := by rw [hha] at hs; exact hs
          clear hs
          go_wp2_with fail
          refine (counts_any _ _ _ _ _).mono ?_
          rintro e w1 ⟨rfl, hb1⟩
          have hb2 := (hb.alloc hsz _).trans (hb1.mono (by simp; omega))
          have hck : w1.cell? ⟨wr.heap.size, 0, none⟩ = some (.int .i64 (R k)) := by rw [hb1.cell (p := ⟨wr.heap.size, 0, none⟩) (by simp)]; simp
          have hrv := hr.kept hb2
          go_wp2_with fail
          refine (contains_any _ _ _ Q _ _ hm hrv).mono ?_
          rintro e w2 ⟨rfl, hw⟩
          subst w2
          go_wp2
          go_roundw
          case rel => exact ⟨k + 1, by omega, by go_num, HT.out, hb2⟩
          case measure => simp [intOf]; omega
        | true =>
          have HT : Hid (hldB len R J m Q p = true) := hldB_mono (k + 1) len R J m Q p (by omega) (by rw [hs, hha])
          clear hs
          go_wp2_with fail
          refine (counts_any _ _ _ _ _).mono ?_
          rintro e w1 ⟨rfl, hb1⟩
          have hb2 := (hb.alloc hsz _).trans (hb1.mono (by simp; omega))
          have hck : w1.cell? ⟨wr.heap.size, 0, none⟩ = some (.int .i64 (R k)) := by rw [hb1.cell (p := ⟨wr.heap.size, 0, none⟩) (by simp)]; simp
          have hrv := hr.kept hb2
          go_wp2_with fail
          refine (contains_any _ _ _ Q _ _ hm hrv).mono ?_
          rintro e w2 ⟨rfl, hw⟩
          subst w2
          go_wp2
          go_ret
          exact ⟨by rw [HT.out]; rfl, hb2⟩
    · obtain rfl : len = k := by omega
      have HT : Hid (hldB len R J m Q p = false) := hh
      clear hs hh
      go_wp2
      go_ret
      exact ⟨by rw [HT.out]; rfl, hb⟩

theorem holds_any (a : Option Addr) (len cap : Nat) (R : Nat → Int) (A : Nat → Bool) (J : Nat → Int) (ar : Option Addr) (m cr : Nat) (Q : Nat → Int) (p : Int) (w : World) (hl : len ≤ 9223372036854775807) (hm : m ≤ 9223372036854775807)
    (hh : HeldV w a len R A J) (hr : RolesV w ar m Q) :
    Calls Try.prog 14 #[.slice a len cap, .slice ar m cr, .int .i64 p] w fun e w' => e = .returned (.bool (hldB len R J m Q p)) ∧ Below w.heap.size w w' := by
  rcases hh with rfl | ⟨b, off, rfl, hc⟩
  · go_enter Try.func14, Try.ntmps14
    go_wp2_with (go_at_call 22; refine (holds_zero _ _ R J _ _ _ Q _ _).mono ?_; rintro e w' ⟨rfl, hw⟩)
    go_ret
    exact ⟨rfl, hw⟩
  · go_enter Try.func14, Try.ntmps14
    go_wp2_with (go_at_call 22; refine (holds_pos _ _ _ _ R A J _ _ _ Q _ _ hl hm hr hc).mono ?_; rintro e w' ⟨rfl, hw⟩)
    go_ret
    exact ⟨rfl, hw⟩
end Go.Proofs.Qxb6618129a
