import Derived.Test.Qxb6618327aRows
import Derived.Test.Qxb6618327aPlain
import Derived.WalkKit
import Derived.ProofKit
import Derived.OpenShut
import Derived.Below
import Derived.Deep.OwnRows
import Derived.Deep.QuietTactic
import Derived.BigQuiet
import Derived.WalkSpells
import Derived.WalkLawsBesides
import Derived.Lib.Strings
import Derived.Lib.Slices
import Derived.Lib.Small
import Derived.Lib.Walk
import Derived.Lib.BitFns
namespace Go.Proofs.Qxb6618327a
open Go.RowKit

/-- a key of twenty bytes -/
structure Key (cs : Array Value) (z : Nat → Int) : Prop where
  size : cs.size = 20
  get : ∀ i, i < 20 → cs[i]? = some (.int .u8 (z i))
  rng : ∀ i, i < 20 → 0 ≤ z i ∧ z i ≤ 255

/-! ### bitAt -/
set_option maxHeartbeats 400000 in
theorem bit_any (cs : Array Value) (z : Nat → Int) (h : Key cs z) (i : Nat) (hi : i < 160) (w : World) :
    Calls Try.prog 6 #[.agg cs, .int .i64 (i : Int)] w fun e w' => e = .returned (.int .u8 (bitI z i)) ∧ w' = w.alloc (.cells cs 22) := by
  have hc : (w.alloc (.cells cs 22)).cell? ⟨w.heap.size, i / 8, none⟩ = some (.int .u8 (z (i / 8))) := by
    rw [cell_of_row _ _ _ cs 22 (0, 0) (heap_alloc_new _ _)]
    exact h.get _ (by omega)
  have hr := h.rng (i / 8) (by omega)
  have hb : Hid (bits .and .u8 (z (i / 8) / 2 ^ (7 - i % 8)) 1 = bitI z i) := by
    have h0 : 0 ≤ z (i / 8) / 2 ^ (7 - i % 8) := Int.ediv_nonneg hr.1 (by have := Int.pow_pos (n := 2) (m := 7 - i % 8) (by omega); omega)
    have h1 : z (i / 8) / 2 ^ (7 - i % 8) ≤ z (i / 8) := Int.ediv_le_self _ hr.1
    have h2 : z (i / 8) / 2 ^ (7 - i % 8) < 2 ^ 8 := by have e8 : (2 : Int) ^ 8 = 256 := by decide
                                                        omega
    exact bits_mask .u8 8 (by decide) wraps_u8 1 (by decide) _ h0 h2
  go_enter Try.func6, Try.ntmps6
  go_wp2
  go_ret
  exact ⟨congrArg (fun x => Ending.returned (.int .u8 x)) hb.out, rfl⟩

/-! ### math/bits.Len8, LeadingZeros8 -/
theorem len8_any (x : Int) (w : World) (h0 : 0 ≤ x) (h1 : x ≤ 255) :
    Calls Try.prog 10 #[.int .u8 x] w fun e w' => e = .returned (.int .i64 (Lib.bitLen x.toNat)) ∧ w' = w := by
  have hl : Hid (wrap64 (Lib.len8 x) = (Lib.bitLen x.toNat : Int)) := by show _ = _; unfold wrap64; exact Lib.len8_int x h0 h1
  go_enter Try.func10, Try.ntmps10
  go_wp2
  go_ret
  exact ⟨congrArg (fun y => Ending.returned (.int .i64 y)) hl.out, rfl⟩
theorem lead8_any (x : Int) (w : World) (h0 : 0 ≤ x) (h1 : x ≤ 255) :
    Calls Try.prog 9 #[.int .u8 x] w fun e w' => e = .returned (.int .i64 (8 - (Lib.bitLen x.toNat : Int))) ∧ w' = w := by
  have l := Lib.bitLen_le8 ⟨x.toNat, by omega⟩
  simp only at l
  go_enter Try.func9, Try.ntmps9
  go_wp2_with (go_at_call 10; refine (len8_any x _ h0 h1).mono ?_; rintro e w' ⟨rfl, rfl⟩)
  go_ret
  exact ⟨rfl, rfl⟩

/-! ### commonBits -/
set_option maxHeartbeats 1000000 in
theorem common_any (ca cb : Array Value) (a b : Nat → Int) (ha : Key ca a) (hb : Key cb b) (w : World) :
    Calls Try.prog 8 #[.agg ca, .agg cb] w fun e w' => ∃ r : Nat, e = .returned (.int .i64 (r : Int)) ∧ Longest a b r ∧ Below w.heap.size w w' := by
  have hA : ∀ i, i < 20 → ((w.alloc (.cells ca 29)).alloc (.cells cb 29)).cell? ⟨w.heap.size, i, none⟩ = some (.int .u8 (a i)) := fun i hi => by
    rw [cell_of_row _ _ _ ca 29 (0, 0) (heap_alloc2_old _ _ _)]
    exact ha.get i hi
  have hB : ∀ i, i < 20 → ((w.alloc (.cells ca 29)).alloc (.cells cb 29)).cell? ⟨w.heap.size + 1, i, none⟩ = some (.int .u8 (b i)) := fun i hi => by
    rw [cell_of_row _ _ _ cb 29 (0, 0) (heap_alloc2_new _ _ _)]
    exact hb.get i hi
  go_enter Try.func8, Try.ntmps8
  go_wp2
  go_loopw [7] (fun i wr => ∃ k : Nat, k ≤ 20 ∧ i = .int .i64 (k : Int) ∧ (∀ j, j < k → a j = b j) ∧ ∃ n, wr = ((w.alloc (.cells ca 29)).alloc (.cells cb 29)).drewN n) (fun i _ => 20 - (intOf i).toNat)
  case atStart => exact ⟨0, by omega, rfl, fun j hj => by omega, 0, rfl⟩
  case round =>
    obtain ⟨k, hk, rfl, heq, n, hwn⟩ := hrel
    have HW : Hid (wr = ((w.alloc (.cells ca 29)).alloc (.cells cb 29)).drewN n) := hwn
    clear hwn
    have HEQ : Hid (∀ j, j < k → a j = b j) := heq
    clear heq
    have hbel : Below w.heap.size w wr := by rw [HW.out]; exact below_drewN (((Below.refl _ _).alloc (Nat.le_refl _) _).alloc (by simp) _) n
    by_cases hlt : k < 20
    · have hca : wr.cell? ⟨w.heap.size, k, none⟩ = some (.int .u8 (a k)) := by rw [HW.out]; exact hA k hlt
      have hcb : wr.cell? ⟨w.heap.size + 1, k, none⟩ = some (.int .u8 (b k)) := by rw [HW.out]; exact hB k hlt
      have hra := ha.rng k hlt
      have hrb := hb.rng k hlt
      have hxr := xor_range (a k) (b k) hra hrb
      have hi20 : (k : Int) < 20 := by omega
      by_cases hx : bits .xor .u8 (a k) (b k) = 0
      · have HN : Hid (∀ j, j < k + 1 → a j = b j) := fun j hj => by
          by_cases e : j = k
          · subst e; exact (xor_zero_iff _ _ hra hrb).1 hx
          · exact HEQ.out j (by omega)
        have hx0 : (bits .xor .u8 (a k) (b k) != 0) = false := by simp [hx]
        clear hx hxr hra hrb
        go_wp2
        go_quiet (fail)
        go_wp2
        go_roundw
        case rel => exact ⟨k + 1, by omega, by go_num, HN.out, n + nq, by rw [HW.out, World.drewN_drewN]⟩
        case measure => simp [intOf]; omega
      · obtain ⟨h8, HL'⟩ := longest_at a b k hlt ha.rng hb.rng HEQ.out hx
        have hx0 : (bits .xor .u8 (a k) (b k) != 0) = true := by simp [hx]
        clear hx hra hrb
        obtain ⟨X, hX⟩ : ∃ X, X = bits .xor .u8 (a k) (b k) := ⟨_, rfl⟩
        rw [← hX] at hxr h8 HL' hx0
        have hX' := hX.symm
        have HL : Hid (Longest a b (k * 8 + (8 - Lib.bitLen X.toNat))) := HL'
        clear hX HL'
        go_wp2
        go_quiet (fail)
        go_wp2_with (go_at_call 9; refine (lead8_any X _ hxr.1 hxr.2).mono ?_; rintro e w' ⟨rfl, hw⟩; subst w')
        go_ret
        exact ⟨_, congrArg (fun y => Ending.returned (.int .i64 y)) (by omega), HL.out, below_drewN hbel nq⟩
    · obtain rfl : k = 20 := by omega
      go_wp2
      go_ret
      exact ⟨160, rfl, longest_all a b HEQ.out, hbel⟩
end Go.Proofs.Qxb6618327a
