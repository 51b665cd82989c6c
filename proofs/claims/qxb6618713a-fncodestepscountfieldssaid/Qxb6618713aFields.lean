import Derived.Test.Qxb6618713aRows
import Derived.WalkKit
import Derived.ProofKit
import Derived.OpenShut
import Derived.Laws.BitsLemmas
import Derived.Laws.BitsAllLaws
namespace Go.Proofs.Qxb6618713a
open Go.RowKit

theorem wraps_u32 (n : Int) (h₀ : 0 ≤ n) (h₁ : n < 2 ^ 32) : IntKind.u32.wrap n = n := by rw [IntKind.wrap_u32]; omega
theorem and15 (c : Int) (h0 : 0 ≤ c) (h1 : c < 4294967296) : bits .and .u32 c 15 = c % 16 := bits_mask .u32 32 (by decide) wraps_u32 4 (by decide) c h0 h1

theorem codeLen_any (c l : Int) (h0 : 0 ≤ c) (h1 : c < 4294967296) (hl : c % 16 = l) (w : World) :
    Calls Try.prog 5 #[.int .u32 c] w fun e w' => e = .returned (.int .u64 l) ∧ w' = w := by
  have hb := and15 c h0 h1
  rw [hl] at hb
  have hl0 : 0 ≤ l := by omega
  have hl1 : l ≤ 15 := by omega
  clear hl
  go_enter Try.func5, Try.ntmps5
  go_wp2
  go_ret
  exact ⟨rfl, rfl⟩
theorem codeValue_any (c v : Int) (_h0 : 0 ≤ c) (_h1 : c < 4294967296) (hv : c / 65536 = v) (w : World) :
    Calls Try.prog 6 #[.int .u32 c] w fun e w' => e = .returned (.int .u32 v) ∧ w' = w := by
  subst hv
  go_enter Try.func6, Try.ntmps6
  go_wp2
  go_ret
  exact ⟨rfl, rfl⟩

set_option maxHeartbeats 400000 in
theorem rebuild (c : Int) (h0 : 0 ≤ c) (h1 : c < 4294967296) (w : World) :
    Calls Try.prog 3 #[.int .u32 c] w fun e w' => e = .returned (.bool true) ∧ w' = w := by
  go_enter Try.func3, Try.ntmps3
  go_wp2_with (first | (go_at_call 5; refine (codeLen_any _ _ h0 h1 rfl _).mono ?_; rintro e w' ⟨rfl, hw⟩; subst w') | (go_at_call 6; refine (codeValue_any _ _ h0 h1 rfl _).mono ?_; rintro e w' ⟨rfl, hw⟩; subst w'))
  go_ret
  exact ⟨congrArg (fun b => Ending.returned (.bool b)) (by rw [beq_iff_eq]; omega), rfl⟩

set_option maxHeartbeats 2000000 in
theorem steps (c d : Int) (h0 : 0 ≤ c) (h1 : c < 4294967296) (d0 : 0 ≤ d) (d1 : d < 4294967296) (w : World) :
    Calls Try.prog 4 #[.int .u32 c, .int .u32 d] w fun e w' => e = .returned (.bool true) ∧ w' = w := by
  by_cases hc : c % 65536 = 65535
  · have hb : (c % 65536 == 65535) = true := by simp [hc]
    go_enter Try.func4, Try.ntmps4
    go_wp2_with fail
    refine (codeLen_any _ (c % 16) (by omega) (by omega) (by omega) _).mono ?_
    rintro e w' ⟨rfl, hw⟩
    subst w'
    go_wp2_with fail
    refine (codeValue_any _ (c / 65536) (by omega) (by omega) (by omega) _).mono ?_
    rintro e w' ⟨rfl, hw⟩
    subst w'
    go_wp2_with fail
    refine (codeLen_any _ ((c % 16 + 1) % 16) (by omega) (by omega) (by omega) _).mono ?_
    rintro e w' ⟨rfl, hw⟩
    subst w'
    go_wp2_with fail
    refine (codeValue_any _ ((c / 65536 + 1) % 65536) (by omega) (by omega) (by omega) _).mono ?_
    rintro e w' ⟨rfl, hw⟩
    subst w'
    go_wp2_with fail
    refine (codeLen_any _ (c % 16) (by omega) (by omega) (by omega) _).mono ?_
    rintro e w' ⟨rfl, hw⟩
    subst w'
    go_wp2_with fail
    refine (codeValue_any _ ((c / 65536 + 1) % 65536) (by omega) (by omega) (by omega) _).mono ?_
    rintro e w' ⟨rfl, hw⟩
    subst w'
    go_wp2_with fail
    refine (codeLen_any _ (c % 16) (by omega) (by omega) (by omega) _).mono ?_
    rintro e w' ⟨rfl, hw⟩
    subst w'
    go_wp2_with fail
    refine (codeValue_any _ (c / 65536) (by omega) (by omega) (by omega) _).mono ?_
    rintro e w' ⟨rfl, hw⟩
    subst w'
    go_wp2
    go_ret
    exact ⟨rfl, rfl⟩
  · have hb : (c % 65536 == 65535) = false := by simp [hc]
    go_enter Try.func4, Try.ntmps4
    go_wp2_with fail
    refine (codeLen_any _ (c % 16) (by omega) (by omega) (by omega) _).mono ?_
    rintro e w' ⟨rfl, hw⟩
    subst w'
    go_wp2_with fail
    refine (codeValue_any _ (c / 65536) (by omega) (by omega) (by omega) _).mono ?_
    rintro e w' ⟨rfl, hw⟩
    subst w'
    go_wp2_with fail
    refine (codeLen_any _ ((c % 16 + 1) % 16) (by omega) (by omega) (by omega) _).mono ?_
    rintro e w' ⟨rfl, hw⟩
    subst w'
    go_wp2_with fail
    refine (codeValue_any _ (c / 65536) (by omega) (by omega) (by omega) _).mono ?_
    rintro e w' ⟨rfl, hw⟩
    subst w'
    go_wp2_with fail
    refine (codeLen_any _ (c % 16) (by omega) (by omega) (by omega) _).mono ?_
    rintro e w' ⟨rfl, hw⟩
    subst w'
    go_wp2_with fail
    refine (codeValue_any _ ((c / 65536 + 1) % 65536) (by omega) (by omega) (by omega) _).mono ?_
    rintro e w' ⟨rfl, hw⟩
    subst w'
    go_wp2_with fail
    refine (codeLen_any _ (c % 16) (by omega) (by omega) (by omega) _).mono ?_
    rintro e w' ⟨rfl, hw⟩
    subst w'
    go_wp2_with fail
    refine (codeValue_any _ (c / 65536) (by omega) (by omega) (by omega) _).mono ?_
    rintro e w' ⟨rfl, hw⟩
    subst w'
    go_wp2
    go_ret
    exact ⟨rfl, rfl⟩
end Go.Proofs.Qxb6618713a
