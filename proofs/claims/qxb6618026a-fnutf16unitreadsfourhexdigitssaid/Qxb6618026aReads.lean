import Derived.Test.Qxb6618026aSpell
namespace Go.Proofs.Qxb6618026a
open Go.RowKit

theorem bytes7_yes (a0 : Option Addr) (l0 c0 : Nat) (w : World) (h : l0 ≤ 1048576) :
    Calls Try.prog 7 #[.slice a0 l0 c0] w fun e w' => e = .returned (.bool true) ∧ w' = w := by
  go_enter Try.func7, Try.ntmps7
  go_wp2
  go_ret
  exact ⟨rfl, rfl⟩
theorem bytes7_no (a0 : Option Addr) (l0 c0 : Nat) (w : World) (h : 1048576 < l0) :
    Calls Try.prog 7 #[.slice a0 l0 c0] w fun e w' => e = .returned (.bool false) ∧ w' = w := by
  go_enter Try.func7, Try.ntmps7
  go_wp2
  go_ret
  exact ⟨rfl, rfl⟩

theorem utf_is (a : Option Addr) (len cap : Nat) (z : Nat → Int) (w : World) (h : Six w a len cap z) (u : Int) (b : Bool) (hu : unitOf len z = u) (hb : escB len z = b) :
    Calls Try.prog 8 #[.slice a len cap] w fun e w' => e = .returned (.tuple #[.int .i32 u, .bool b]) ∧ w' = w := by
  subst hu; subst hb; exact zzutf_any a len cap z w h
theorem esc_is (a : Option Addr) (len cap : Nat) (z : Nat → Int) (w : World) (h : Six w a len cap z) (b : Bool) (hb : escB len z = b) :
    Calls Try.prog 9 #[.slice a len cap] w fun e w' => e = .returned (.bool b) ∧ w' = w := by
  subst hb; exact esc_any a len cap z w h

theorem reads_big (a0 : Option Addr) (len0 cap0 : Nat) (w : World) (h : 1048576 < len0) :
    Calls Try.prog 3 #[.slice a0 len0 cap0] w fun e w' => e = .returned (.bool true) ∧ Below w.heap.size w w' := by
  go_enter Try.func3, Try.ntmps3
  go_wp2_with (go_at_call 7; refine (bytes7_no _ _ _ _ h).mono ?_; rintro e w' ⟨rfl, hw⟩; subst w')
  go_ret
  exact ⟨rfl, Below.refl _ _⟩

set_option maxHeartbeats 400000 in
theorem reads_nil (w : World) :
    Calls Try.prog 3 #[.slice none 0 0] w fun e w' => e = .returned (.bool true) ∧ Below w.heap.size w w' := by
  have hne := fun (w : World) (a : Option Addr) (n c n' c' : Nat) => run_neq_slice_nil_any (P := Try.prog) w 22 5 a n c n' c' Try.underlying22
  have h6 : ∀ wr, Six wr none 0 0 (fun _ => 0) := fun wr h => by omega
  go_enter Try.func3, Try.ntmps3
  go_wp2_with (go_at_call 7; refine (bytes7_yes _ _ _ _ (by omega)).mono ?_; rintro e w' ⟨rfl, hw⟩; subst w')
  refine (utf_is _ _ _ (fun _ => 0) _ (h6 _) 0 false rfl rfl).mono ?_
  rintro e w' ⟨rfl, hw⟩
  subst w'
  go_wp2_with fail
  refine (esc_is _ _ _ (fun _ => 0) _ (h6 _) false rfl).mono ?_
  rintro e w' ⟨rfl, hw⟩
  subst w'
  go_wp2
  go_ret
  exact ⟨rfl, Below.refl _ _⟩

set_option maxHeartbeats 1000000 in
theorem reads_some (x : Addr) (len0 cap0 : Nat) (z0 : Nat → Int) (w : World) (h0 : ∀ i, i < len0 → w.cell? (x.add i) = some (.int .u8 (z0 i)))
    (r0 : ∀ i, 0 ≤ z0 i ∧ z0 i ≤ 255) (m0 : len0 ≤ 1048576) :
    Calls Try.prog 3 #[.slice (some x) len0 cap0] w fun e w' => e = .returned (.bool true) ∧ Below w.heap.size w w' := by
  have hmk0 := run_make_row' (P := Try.prog) 22 5 (.int .u8 0) 1 Try.underlying22 info5 rfl .i64 .i64 len0 (by omega) (by omega)
  have hne := fun (w : World) (a : Option Addr) (n c n' c' : Nat) => run_neq_slice_nil_any (P := Try.prog) w 22 5 a n c n' c' Try.underlying22
  obtain ⟨W1, hcp, hrow, hbW, hsz⟩ := copy_new w x len0 cap0 z0 h0
  have h6 : Six W1 (some ⟨w.heap.size, 0, none⟩) len0 len0 z0 := six_row hrow (by unfold maxLen; omega) r0
  have HRW : Hid (W1.rowIs w.heap.size 5 len0 (fun j => .int .u8 (z0 j))) := hrow
  clear hrow hsz
  cases he : escB len0 z0 with
  | false =>
    have hu := unitOf_no len0 z0 he
    go_enter Try.func3, Try.ntmps3
    go_wp2_with (go_at_call 7; refine (bytes7_yes _ _ _ _ m0).mono ?_; rintro e w' ⟨rfl, hw⟩; subst w')
    refine (utf_is _ _ _ z0 _ h6 0 false hu he).mono ?_
    rintro e w' ⟨rfl, hw⟩
    subst w'
    go_wp2_with fail
    refine (esc_is _ _ _ z0 _ h6 false he).mono ?_
    rintro e w' ⟨rfl, hw⟩
    subst w'
    go_wp2
    go_ret
    exact ⟨rfl, hbW⟩
  | true =>
    have hu := unitOf_yes len0 z0 he
    have hl : 6 ≤ len0 ∧ hexes z0 4 = true := by
      unfold escB at he
      simp only [Bool.and_eq_true, decide_eq_true_eq] at he
      exact ⟨he.1.1, he.2⟩
    have hl6 : 6 ≤ len0 := hl.1
    have HC : Hid (∀ i, i < 6 → W1.cell? ⟨w.heap.size, 0 + i, none⟩ = some (.int .u8 (z0 i))) := fun i hi => by rw [Nat.zero_add]; exact HRW.out.cell (by omega)
    have HX : Hid (hexes z0 4 = true) := hl.2
    clear hl
    go_enter Try.func3, Try.ntmps3
    go_wp2_with (go_at_call 7; refine (bytes7_yes _ _ _ _ m0).mono ?_; rintro e w' ⟨rfl, hw⟩; subst w')
    refine (utf_is _ _ _ z0 _ h6 (uv z0 4) true hu he).mono ?_
    rintro e w' ⟨rfl, hw⟩
    subst w'
    go_wp2_with fail
    refine (esc_is _ _ _ z0 _ h6 true he).mono ?_
    rintro e w' ⟨rfl, hw⟩
    subst w'
    go_wp2_with fail
    refine (spelled_yes w.heap.size 0 len0 len0 z0 W1 hl6 (by unfold maxLen; omega) HX.out HC.out).mono ?_
    rintro e w' ⟨rfl, n, hw⟩
    subst w'
    go_wp2
    go_ret
    exact ⟨rfl, below_drewN hbW n⟩
end Go.Proofs.Qxb6618026a
