import Derived.Test.Qxb6618026aCopy
import Derived.Deep.QuietTactic
import Derived.BigQuiet
import Derived.WalkLawsBesides
namespace Go.Proofs.Qxb6618026a
open Go.RowKit

/-- a capital digit lowered -/
def foldI (c : Int) : Int := if 65 ≤ c ∧ c ≤ 70 then c + 32 else c

theorem fold_any (c : Int) (w : World) :
    Calls Try.prog 21 #[.int .u8 c] w fun e w' => e = .returned (.int .u8 (foldI c)) ∧ w' = w := by
  unfold foldI
  by_cases h1 : 65 ≤ c
  · by_cases h2 : c ≤ 70
    · rw [if_pos ⟨h1, h2⟩]
      go_enter Try.func21, Try.ntmps21
      go_wp2
      go_ret
      exact ⟨rfl, rfl⟩
    · rw [if_neg (by omega)]
      go_enter Try.func21, Try.ntmps21
      go_wp2
      go_ret
      exact ⟨rfl, rfl⟩
  · rw [if_neg (by omega)]
    go_enter Try.func21, Try.ntmps21
    go_wp2
    go_ret
    exact ⟨rfl, rfl⟩

/-- the digit that spells n -/
def chI (n : Int) : Int := if n < 10 then n + 48 else n + 87
theorem ch_dv (c : Int) (h : hexB c = true) : chI (dv c) = foldI c := by
  unfold hexB at h
  simp only [decide_eq_true_eq] at h
  unfold chI dv foldI
  split <;> split <;> split <;> (try split) <;> omega

theorem nib_of (z : Nat → Int) (hx : hexes z 4 = true) (k : Nat) (hk : k < 4) : bits .and .i32 (uv z 4 / 2 ^ (12 - 4 * k)) 15 = dv (z (2 + k)) := by
  have hr := uv_range z 4 hx
  have e4 : (16 : Int) ^ 4 = 65536 := by decide
  rw [e4] at hr
  have h0 := dv_range (z 2) (by have := hexes_pre z 1 4 (by omega) hx; rw [hexes_succ, Bool.and_eq_true] at this; exact this.2)
  have h1 := dv_range (z 3) (by have := hexes_pre z 2 4 (by omega) hx; rw [hexes_succ, Bool.and_eq_true] at this; exact this.2)
  have h2 := dv_range (z 4) (by have := hexes_pre z 3 4 (by omega) hx; rw [hexes_succ, Bool.and_eq_true] at this; exact this.2)
  have h3 := dv_range (z 5) (by have := hexes_pre z 4 4 (by omega) hx; rw [hexes_succ, Bool.and_eq_true] at this; exact this.2)
  have hu : uv z 4 = (((0 * 16 + dv (z 2)) * 16 + dv (z 3)) * 16 + dv (z 4)) * 16 + dv (z 5) := rfl
  have mask : ∀ x : Int, 0 ≤ x → x < 2147483648 → bits .and .i32 x 15 = x % 16 := fun x a b => bits_mask .i32 31 (by decide) wraps_i32 4 (by decide) x a b
  match k, hk with
  | 0, _ => show bits .and .i32 (uv z 4 / 4096) 15 = dv (z 2); rw [mask _ (by omega) (by omega)]; omega
  | 1, _ => show bits .and .i32 (uv z 4 / 256) 15 = dv (z 3); rw [mask _ (by omega) (by omega)]; omega
  | 2, _ => show bits .and .i32 (uv z 4 / 16) 15 = dv (z 4); rw [mask _ (by omega) (by omega)]; omega
  | 3, _ => show bits .and .i32 (uv z 4 / 1) 15 = dv (z 5); rw [mask _ (by omega) (by omega)]; omega

theorem idx_nat (n : Nat) (h : n < 16) (w : World) :
    (Instr.index 9 (.string { data := #[48, 49, 50, 51, 52, 53, 54, 55, 56, 57, 97, 98, 99, 100, 101, 102] }) (.int .i32 (n : Int))).run Try.prog w = .ok (.int .u8 (chI n)) w := by
  rcases (show n = 0 ∨ n = 1 ∨ n = 2 ∨ n = 3 ∨ n = 4 ∨ n = 5 ∨ n = 6 ∨ n = 7 ∨ n = 8 ∨ n = 9 ∨ n = 10 ∨ n = 11 ∨ n = 12 ∨ n = 13 ∨ n = 14 ∨ n = 15 by omega) with rfl | rfl | rfl | rfl | rfl | rfl | rfl | rfl | rfl | rfl | rfl | rfl | rfl | rfl | rfl | rfl <;> kernel_rfl
theorem idx_dv (c : Int) (h : hexB c = true) (w : World) :
    (Instr.index 9 (.string { data := #[48, 49, 50, 51, 52, 53, 54, 55, 56, 57, 97, 98, 99, 100, 101, 102] }) (.int .i32 (dv c))).run Try.prog w = .ok (.int .u8 (foldI c)) w := by
  have hd := dv_range c h
  have hi := idx_nat (dv c).toNat (by omega) w
  rw [Int.toNat_of_nonneg hd.1] at hi
  rw [hi, ch_dv c h]

set_option maxHeartbeats 400000 in
theorem spelled_yes (b off len cap : Nat) (z : Nat → Int) (w : World) (h : 6 ≤ len) (hm : len ≤ maxLen) (hx : hexes z 4 = true) (hc : ∀ i, i < 6 → w.cell? ⟨b, off + i, none⟩ = some (.int .u8 (z i))) :
    Calls Try.prog 10 #[.int .i32 (uv z 4), .slice (some ⟨b, off, none⟩) len cap] w fun e w' => e = .returned (.bool true) ∧ ∃ n, w' = w.drewN n := by
  unfold maxLen at hm
  have hr := uv_range z 4 hx
  have hnib : Hid (∀ k, k < 4 → bits .and .i32 (uv z 4 / 2 ^ (12 - 4 * k)) 15 = dv (z (2 + k))) := nib_of z hx
  have HX : Hid (hexes z 4 = true) := hx
  clear hx
  have hU : 0 ≤ uv z 4 := hr.1
  have hU2 : uv z 4 ≤ 65535 := by have e4 : (16 : Int) ^ 4 = 65536 := by decide
                                  rw [e4] at hr; omega
  clear hr
  obtain ⟨U, hUe⟩ : ∃ U, U = uv z 4 := ⟨_, rfl⟩
  rw [← hUe] at hnib hU hU2 ⊢
  clear hUe
  go_enter Try.func10, Try.ntmps10
  go_wp2
  go_loopw [5] (fun i wr => ∃ k : Nat, k ≤ 4 ∧ i = .int .i64 (k : Int) ∧ ∃ n, wr = w.drewN n) (fun i _ => 4 - (intOf i).toNat)
  case atStart => exact ⟨0, by omega, rfl, 0, rfl⟩
  case round =>
    obtain ⟨k, hk, rfl, n, hwn⟩ := hrel
    have HW : Hid (wr = w.drewN n) := hwn
    clear hwn
    by_cases hlt : k < 4
    · have hck : wr.cell? ⟨b, off + (2 + k), none⟩ = some (.int .u8 (z (2 + k))) := by rw [HW.out]; exact hc (2 + k) (by omega)
      have hn := hnib.out k hlt
      have hhex : hexB (z (2 + k)) = true := by
        have := hexes_pre z (k + 1) 4 (by omega) HX.out
        rw [hexes_succ, Bool.and_eq_true] at this
        exact this.2
      have hix := idx_dv (z (2 + k)) hhex
      clear hhex
      have hb1 : (2 : Int) + (k : Int) < (len : Int) := by omega
      have hb0 : (0 : Int) ≤ 2 + (k : Int) := by omega
      have htn : ((2 : Int) + (k : Int)).toNat = 2 + k := by omega
      have hwr : IntKind.i64.wrap (2 + (k : Int)) = 2 + (k : Int) := by rw [IntKind.wrap_i64]; omega
      go_wp2
      go_quiet ((go_at_call 21; exact Calls.quiet_of_same (fold_any _ _)))
      go_wp2
      go_roundw
      case rel => exact ⟨k + 1, by omega, by go_num, n + nq, by rw [HW.out, World.drewN_drewN]⟩
      case measure => simp [intOf]; omega
    · go_wp2
      go_ret
      exact ⟨rfl, n, HW.out⟩
end Go.Proofs.Qxb6618026a
