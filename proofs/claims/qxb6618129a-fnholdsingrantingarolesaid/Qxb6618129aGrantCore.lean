import Derived.Test.Qxb6618129aGrant
namespace Go.Proofs.Qxb6618129a
open Go.RowKit

set_option maxHeartbeats 2000000 in
set_option maxRecDepth 10000 in
theorem core5 (a0 a1 : Option Addr) (len cap m cm i j : Nat) (R : Nat → Int) (A : Nat → Bool) (J Q : Nat → Int) (p r q : Int) (ad : Bool) (w : World)
    (hl : len ≤ 16384) (hm : m ≤ 65536) (hi : i ≤ len) (hj : j ≤ m) (hh : HeldIn w a0 len cap R A J) (hr : RolesIn w a1 m Q) :
    Calls Try.prog 5 #[.slice a0 len cap, .slice a1 m cm, .int .i64 p, .int .i64 r, .int .i64 q, .bool ad, .int .i64 (i : Int), .int .i64 (j : Int)] w fun e w' => e = .returned (.bool true) ∧ Below w.heap.size w w' := by
  have hmk := run_make_row' (P := Try.prog) 32 2 (.int .i64 0) 8 Try.underlying32 info2 rfl .i64 .i64 m (by omega) (by omega)
  have hne := fun (w : World) (a : Option Addr) (n c n' c' : Nat) => run_neq_slice_nil_any (P := Try.prog) w 32 2 a n c n' c' Try.underlying32
  go_enter Try.func5, Try.ntmps5
  go_wp2_with fail
  refine (bytes16_yes _ _ _ _ _ _ _ _ _ _ _ _ _ (by omega)).mono ?_
  rintro e w' ⟨rfl, hw⟩
  subst w'
  go_upto_if 60 with fail
  go_cut [1] (fun s wc => ∃ ar cr, s = .slice ar m cr ∧ RolesV wc ar m Q ∧ Below w.heap.size w wc)
  case first =>
    rcases hr with ⟨rfl, hmz⟩ | ⟨x, rfl, hcx⟩
    · go_wp2
      go_meet
      case rel => exact ⟨none, cm, rfl, .inl (by omega), Below.refl _ _⟩
    · obtain ⟨W1, hcp, hrow, hb1, hs1⟩ := copy_new w x m cm Q hcx
      have HROW : Hid (W1.rowIs w.heap.size 2 m (fun j => .int .i64 (Q j))) := hrow
      clear hrow hs1
      go_wp2
      go_meet
      case rel => exact ⟨_, _, rfl, .inr ⟨w.heap.size, 0, rfl, fun i hi => by rw [Nat.zero_add]; exact HROW.out.cell hi⟩, hb1⟩
  case rest =>
    obtain ⟨ar, cr, rfl, hrv, hbw1⟩ := hcut
    clear hmk hne hr
    have hh1 : HeldIn wc a0 len cap R A J := hh.kept hbw1
    have hlm : m ≤ 9223372036854775807 := by omega
    have hlm1 : m + 1 ≤ 9223372036854775807 := by omega
    have hll : len ≤ 9223372036854775807 := by omega
    go_wp2_with fail
    refine (held_any a0 len cap R A J _ hl hh1).mono ?_
    rintro e W2 ⟨ah, ch, rfl, hown, hb2⟩
    have hrv2 := hrv.kept hb2
    have hbw2 := hbw1.trans (hb2.mono hbw1.size)
    go_wp2_with fail
    refine (holds_any ah len ch R A J ar m cr Q p _ hll hlm hown.view hrv2).mono ?_
    rintro e W3 ⟨rfl, hb3⟩
    have hown3 := hown.kept hb3
    have hrv3 := hrv2.kept hb3
    have hbw3 := hbw2.trans (hb3.mono hbw2.size)
    go_wp2_with fail
    refine (insertRole_any ar m cr j Q r _ hm hj hrv3).mono ?_
    rintro e W4 ⟨rfl, hf4, hb4⟩
    have hown4 := hown3.kept hb4
    have hr2 : RolesV W4 (some ⟨W3.heap.size, 0, none⟩) (m + 1) (ins Q j r) := hf4.view (Nat.le_refl _)
    have hbw4 := hbw3.trans (hb4.mono hbw3.size)
    go_wp2_with fail
    refine (holds_any ah len ch R A J _ (m + 1) (m + 1) (ins Q j r) p _ hll hlm1 hown4.view hr2).mono ?_
    rintro e W5 ⟨rfl, hb5⟩
    have hown5 := hown4.kept hb5
    have hr25 := hr2.kept hb5
    have hbw5 := hbw4.trans (hb5.mono hbw4.size)
    have hal : Below W5.heap.size W5 (W5.alloc (.cells #[.int .i64 r] 2)) := (Below.refl _ _).alloc (Nat.le_refl _) _
    have hown6 := hown5.kept hal
    have hr26 := hr25.kept hal
    have hbw6 := hbw5.trans (hal.mono hbw5.size)
    have hone : RolesV (W5.alloc (.cells #[.int .i64 r] 2)) (some ⟨W5.heap.size, 0, none⟩) 1 (fun _ => r) :=
      .inr ⟨W5.heap.size, 0, rfl, fun i hi => by obtain rfl : i = 0 := by omega
                                                 simp⟩
    clear hal
    go_wp2_with fail
    refine (holds_any ah len ch R A J _ 1 1 (fun _ => r) p _ hll (by omega) hown6.view hone).mono ?_
    rintro e W7 ⟨rfl, hb7⟩
    have hown7 := hown6.kept hb7
    have hr27 := hr26.kept hb7
    have hbw7 := hbw6.trans (hb7.mono hbw6.size)
    go_wp2_with fail
    refine (insert_any ah len ch i R A J r q ad _ hl hi hown7.view).mono ?_
    rintro e W8 ⟨rfl, hf8, hb8⟩
    have hr28 := hr27.kept hb8
    have hbw8 := hbw7.trans (hb8.mono hbw7.size)
    go_wp2_with fail
    refine (holds_any _ (len + 1) _ (ins R i r) (ins A i ad) (ins J i q) _ (m + 1) (m + 1) (ins Q j r) p _ (by omega) hlm1 (.inr ⟨_, 0, rfl, hf8.view (Nat.le_refl _)⟩) hr28).mono ?_
    rintro e W9 ⟨rfl, hb9⟩
    have hfin := hbw8.trans (hb9.mono hbw8.size)
    rw [hldB_both len i R J r q m j Q p hi hj, hldB_roles len R J m j Q r p hj]
    obtain ⟨Bv, hBv⟩ : ∃ Bv, Bv = hldB len R J m Q p := ⟨_, rfl⟩
    obtain ⟨Av, hAv⟩ : ∃ Av, Av = hldB len R J 1 (fun _ => r) p := ⟨_, rfl⟩
    rw [← hBv, ← hAv]
    clear hBv hAv
    have hq : Hid (cntB q p = (decide (q = 0) || decide (q = p))) := by show _ = _; unfold cntB; simp
    rw [hq.out]
    clear hq
    go_upto_region 20 with fail
    by_cases h0 : q = 0
    · have e0 : (q == 0) = true := by simp [h0]
      have e0' : decide (q = 0) = true := by simp [h0]
      rw [e0', Bool.true_or, Bool.or_true]
      clear h0
      cases Bv <;> cases Av
      all_goals
        go_wp2
        go_ret
        exact ⟨rfl, hfin⟩
    · have e0 : (q == 0) = false := by simp [h0]
      have e0' : decide (q = 0) = false := by simp [h0]
      rw [e0', Bool.false_or]
      by_cases h1 : q = p
      · have e1 : (q == p) = true := by simp [h1]
        have e1' : decide (q = p) = true := by simp [h1]
        rw [e1', Bool.or_true]
        clear h0 h1
        cases Bv <;> cases Av
        all_goals
          go_wp2
          go_ret
          exact ⟨rfl, hfin⟩
      · have e1 : (q == p) = false := by simp [h1]
        have e1' : decide (q = p) = false := by simp [h1]
        rw [e1', Bool.or_false]
        clear h0 h1
        cases Bv <;> cases Av
        all_goals
          go_wp2
          go_ret
          exact ⟨rfl, hfin⟩
end Go.Proofs.Qxb6618129a
