import Derived.Test.Qxb6618026aRows
import Derived.WalkKit
import Derived.ProofKit
import Derived.OpenShut
import Derived.Below
import Derived.Test.Qxb6618026aPlain
namespace Go.Proofs.Qxb6618026a
open Go.RowKit

set_option maxHeartbeats 400000 in
theorem isHex_any (c : Int) (w : World) :
    Calls Try.prog 20 #[.int .u8 c] w fun e w' => e = .returned (.bool (hexB c)) ∧ w' = w := by
  by_cases h1 : 48 ≤ c
  · by_cases h2 : c ≤ 57
    · have hb : hexB c = true := by unfold hexB; simp; omega
      rw [hb]
      go_enter Try.func20, Try.ntmps20
      go_wp2
      go_ret
      exact ⟨rfl, rfl⟩
    · by_cases h3 : 97 ≤ c
      · by_cases h4 : c ≤ 102
        · have hb : hexB c = true := by unfold hexB; simp; omega
          rw [hb]
          go_enter Try.func20, Try.ntmps20
          go_wp2
          go_ret
          exact ⟨rfl, rfl⟩
        · have h7 : ¬ c ≤ 70 := by omega
          have hb : hexB c = false := by unfold hexB; simp; omega
          rw [hb]
          go_enter Try.func20, Try.ntmps20
          go_wp2
          go_ret
          exact ⟨rfl, rfl⟩
      · by_cases h5 : 65 ≤ c
        · by_cases h6 : c ≤ 70
          · have hb : hexB c = true := by unfold hexB; simp; omega
            rw [hb]
            go_enter Try.func20, Try.ntmps20
            go_wp2
            go_ret
            exact ⟨rfl, rfl⟩
          · have hb : hexB c = false := by unfold hexB; simp; omega
            rw [hb]
            go_enter Try.func20, Try.ntmps20
            go_wp2
            go_ret
            exact ⟨rfl, rfl⟩
        · have hb : hexB c = false := by unfold hexB; simp; omega
          rw [hb]
          go_enter Try.func20, Try.ntmps20
          go_wp2
          go_ret
          exact ⟨rfl, rfl⟩
  · have hb : hexB c = false := by unfold hexB; simp; omega
    rw [hb]
    go_enter Try.func20, Try.ntmps20
    go_wp2
    go_ret
    exact ⟨rfl, rfl⟩

/-! ### zzIsEscape -/
theorem esc_short (a : Option Addr) (len cap : Nat) (z : Nat → Int) (w : World) (h : len < 6) :
    Calls Try.prog 9 #[.slice a len cap] w fun e w' => e = .returned (.bool (escB len z)) ∧ w' = w := by
  rw [escB_short len z h]
  go_enter Try.func9, Try.ntmps9
  go_wp2
  go_ret
  exact ⟨rfl, rfl⟩

set_option maxHeartbeats 400000 in
theorem esc_long (b off len cap : Nat) (z : Nat → Int) (w : World) (h : 6 ≤ len) (hm : len ≤ maxLen) (hc : ∀ i, i < 6 → w.cell? ⟨b, off + i, none⟩ = some (.int .u8 (z i))) :
    Calls Try.prog 9 #[.slice (some ⟨b, off, none⟩) len cap] w fun e w' => e = .returned (.bool (escB len z)) ∧ w' = w := by
  unfold maxLen at hm
  have hc0 : w.cell? ⟨b, off, none⟩ = some (.int .u8 (z 0)) := hc 0 (by omega)
  have hc1 : w.cell? ⟨b, off + 1, none⟩ = some (.int .u8 (z 1)) := hc 1 (by omega)
  have l0 : (0 : Int) < (len : Int) := by omega
  have l1 : (1 : Int) < (len : Int) := by omega
  have l6 : ¬ (len : Int) < 6 := by omega
  by_cases h0 : z 0 = 92
  · by_cases h1 : z 1 = 117
    · have e0 : (z 0 != 92) = false := by simp [h0]
      have e1 : (z 1 != 117) = false := by simp [h1]
      have H0 : Hid (z 0 = 92) := h0
      have H1 : Hid (z 1 = 117) := h1
      clear h0 h1
      go_enter Try.func9, Try.ntmps9
      go_wp2
      go_loop [3] (fun i => ∃ k : Nat, k ≤ 4 ∧ i = .int .i64 ((2 + k : Nat) : Int) ∧ hexes z k = true) (fun i => 6 - (intOf i).toNat)
      case atStart => exact ⟨0, by omega, rfl, rfl⟩
      case round =>
        obtain ⟨k, hk, rfl, hx⟩ := hrel
        by_cases hlt : k < 4
        · have hck : w.cell? ⟨b, off + (2 + k), none⟩ = some (.int .u8 (z (2 + k))) := hc (2 + k) (by omega)
          have hs := hexes_succ z k
          cases hh : hexB (z (2 + k)) with
          | true =>
            have HS : Hid (hexes z (k + 1) = true) := by rw [hx, hh] at hs; exact hs
            clear hs hx
            go_wp2_with (go_at_call 20; refine (isHex_any _ _).mono ?_; rintro e w' ⟨rfl, rfl⟩)
            go_round
            case rel => exact ⟨k + 1, by omega, by go_num, HS.out⟩
            case measure => simp [intOf]; omega
          | false =>
            have HS : Hid (hexes z 4 = false) := by rw [hx, hh] at hs; exact hexes_mono z (k + 1) 4 (by omega) hs
            clear hs hx
            go_wp2_with (go_at_call 20; refine (isHex_any _ _).mono ?_; rintro e w' ⟨rfl, rfl⟩)
            go_ret
            exact ⟨by rw [escB_hex len z HS.out]; rfl, rfl⟩
        · obtain rfl : k = 4 := by omega
          have HS : Hid (hexes z 4 = true) := hx
          clear hx
          go_wp2
          go_ret
          exact ⟨by rw [escB_yes len z h H0.out H1.out HS.out]; rfl, rfl⟩
    · have e0 : (z 0 != 92) = false := by simp [h0]
      have e1 : (z 1 != 117) = true := by simp [h1]
      rw [escB_head len z (.inr h1)]
      clear h0 h1
      go_enter Try.func9, Try.ntmps9
      go_wp2
      go_ret
      exact ⟨rfl, rfl⟩
  · have e0 : (z 0 != 92) = true := by simp [h0]
    rw [escB_head len z (.inl h0)]
    clear h0
    go_enter Try.func9, Try.ntmps9
    go_wp2
    go_ret
    exact ⟨rfl, rfl⟩
end Go.Proofs.Qxb6618026a
