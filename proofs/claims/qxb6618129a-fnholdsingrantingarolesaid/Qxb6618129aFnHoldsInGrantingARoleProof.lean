/- The proof of 'Rows.FnHoldsInGrantingARoleSaid'. -/
import Derived.Test.Qxb6618129aGrantCore
import Derived.Test.Qxb6618129aOpen
import Derived.ShutString
import Derived.ChangeOld
namespace Go.Proofs.Qxb6618129a.fnHoldsInGrantingARole
open Go.ChangeShapes Go.WideShapes Go.ChangeAt Go.RowKit
set_option linter.unusedVariables false

/-! ### the early returns -/
set_option maxHeartbeats 400000 in
theorem big (a0 a1 : Option Addr) (len cap m cm : Nat) (p r q i j : Int) (ad : Bool) (w : World) (l0 : len ≤ maxLen) (l1 : m ≤ maxLen) (h : 1048576 < len + m) :
    Calls Try.prog 5 #[.slice a0 len cap, .slice a1 m cm, .int .i64 p, .int .i64 r, .int .i64 q, .bool ad, .int .i64 i, .int .i64 j] w fun e w' => e = .returned (.bool true) ∧ Below w.heap.size w w' := by
  go_enter Try.func5, Try.ntmps5
  go_wp2_with fail
  refine (bytes16_no _ _ _ _ _ _ _ _ _ _ _ _ _ l0 l1 h).mono ?_
  rintro e w' ⟨rfl, hw⟩
  subst w'
  go_wp2
  go_ret
  exact ⟨rfl, Below.refl _ _⟩

set_option maxHeartbeats 400000 in
theorem early (a0 a1 : Option Addr) (len cap m cm : Nat) (p r q i j : Int) (ad : Bool) (w : World) (hs : len + m ≤ 1048576)
    (h : 16384 < len ∨ (len ≤ 16384 ∧ 65536 < m)) :
    Calls Try.prog 5 #[.slice a0 len cap, .slice a1 m cm, .int .i64 p, .int .i64 r, .int .i64 q, .bool ad, .int .i64 i, .int .i64 j] w fun e w' => e = .returned (.bool true) ∧ Below w.heap.size w w' := by
  rcases h with h | ⟨h, h2⟩
  all_goals
    go_enter Try.func5, Try.ntmps5
    go_wp2_with fail
    refine (bytes16_yes _ _ _ _ _ _ _ _ _ _ _ _ _ hs).mono ?_
    rintro e w' ⟨rfl, hw⟩
    subst w'
    go_wp2
    go_ret
    exact ⟨rfl, Below.refl _ _⟩

set_option maxHeartbeats 1000000 in
theorem early2 (a0 a1 : Option Addr) (len cap m cm : Nat) (p r q i j : Int) (ad : Bool) (w : World) (hl : len ≤ 16384) (hm : m ≤ 65536)
    (h : i < 0 ∨ (0 ≤ i ∧ (len : Int) < i) ∨ (0 ≤ i ∧ i ≤ (len : Int) ∧ j < 0) ∨ (0 ≤ i ∧ i ≤ (len : Int) ∧ 0 ≤ j ∧ (m : Int) < j)) :
    Calls Try.prog 5 #[.slice a0 len cap, .slice a1 m cm, .int .i64 p, .int .i64 r, .int .i64 q, .bool ad, .int .i64 i, .int .i64 j] w fun e w' => e = .returned (.bool true) ∧ Below w.heap.size w w' := by
  rcases h with h | ⟨h, h2⟩ | ⟨h, h2, h3⟩ | ⟨h, h2, h3, h4⟩
  all_goals
    go_enter Try.func5, Try.ntmps5
    go_wp2_with fail
    refine (bytes16_yes _ _ _ _ _ _ _ _ _ _ _ _ _ (by omega)).mono ?_
    rintro e w' ⟨rfl, hw⟩
    subst w'
    go_wp2
    go_ret
    exact ⟨rfl, Below.refl _ _⟩

theorem walk (a0 a1 : Option Addr) (len cap m cm : Nat) (R : Nat → Int) (A : Nat → Bool) (J Q : Nat → Int) (p r q i j : Int) (ad : Bool) (w : World) (l0 : len ≤ maxLen) (l1 : m ≤ maxLen)
    (hh : HeldIn w a0 len cap R A J) (hr : RolesIn w a1 m Q) :
    Calls Try.prog 5 #[.slice a0 len cap, .slice a1 m cm, .int .i64 p, .int .i64 r, .int .i64 q, .bool ad, .int .i64 i, .int .i64 j] w fun e w' => e = .returned (.bool true) ∧ Below w.heap.size w w' := by
  by_cases hs : 1048576 < len + m
  · exact big a0 a1 len cap m cm p r q i j ad w l0 l1 hs
  · by_cases h1 : 16384 < len
    · exact early a0 a1 len cap m cm p r q i j ad w (by omega) (.inl h1)
    · by_cases h2 : 65536 < m
      · exact early a0 a1 len cap m cm p r q i j ad w (by omega) (.inr ⟨by omega, h2⟩)
      · by_cases h3 : 0 ≤ i ∧ i ≤ (len : Int) ∧ 0 ≤ j ∧ j ≤ (m : Int)
        · obtain ⟨i', rfl⟩ := Int.eq_ofNat_of_zero_le h3.1
          obtain ⟨j', rfl⟩ := Int.eq_ofNat_of_zero_le h3.2.2.1
          exact core5 a0 a1 len cap m cm i' j' R A J Q p r q ad w (by omega) (by omega) (by omega) (by omega) hh hr
        · exact early2 a0 a1 len cap m cm p r q i j ad w (by omega) (by omega) (by omega)

/-! ### the row's step -/
set_option maxRecDepth 100000 in
theorem lifted (os : Os) (started : os.Started) (H : Type) (enc : TypeId × Value → H) :
    ReturnsInHanded {} Try.checked os 5 .any (Rows.fnHoldsInGrantingARoleSpec.pre6 enc Try.prog Try.f5 Rows.fnHoldsInGrantingARoleRow.domain false) (Rows.fnHoldsInGrantingARoleSpec.post enc Try.prog Try.f5 false true false false) := by
  refine returnsInHanded_of_change (C := Try.checked) own started (by kernel_rfl) Try.func5
    (ChangeSpec.witness6 (enc := enc) (C := Try.checked) false ⟨#[], #[.slice none 0 0, .slice none 0 0, .int .i64 0, .int .i64 0, .int .i64 0, .bool false, .int .i64 0, .int .i64 0], []⟩ 8 (by kernel_rfl) (by kernel_rfl) (by kernel_rfl) (by kernel_rfl)) ?_
  intro W base args ds gs before hval0 hW hcnd _
  have hval : ∀ (j : Nat) t v, Try.f5.params[j]? = some t → args[j]? = some v → Value.okWide Try.prog W .any base t v := hval0
  have hW' := hW
  obtain ⟨p, q, hA0, hV, rfl, hfz, hnd⟩ := hW
  have hA : DataW.TrodAll enc Try.prog W 0 (fun _ => true) true Try.f5.params.toList args.toList ds p := hA0
  rw [Try.params5] at hA hval
  obtain ⟨v0, vs0, d0, ds0, p0, q0, hargs, rfl, rfl, h0, r0⟩ := trodAll_cons hA
  obtain ⟨v1, vs1, d1, ds1, p1, q1, rfl, rfl, rfl, h1, r1⟩ := trodAll_cons r0
  obtain ⟨v2, vs2, d2, ds2, p2, q2, rfl, rfl, rfl, h2, r2⟩ := trodAll_cons r1
  obtain ⟨v3, vs3, d3, ds3, p3, q3, rfl, rfl, rfl, h3, r3⟩ := trodAll_cons r2
  obtain ⟨v4, vs4, d4, ds4, p4, q4, rfl, rfl, rfl, h4, r4⟩ := trodAll_cons r3
  obtain ⟨v5, vs5, d5, ds5, p5, q5, rfl, rfl, rfl, h5, r5⟩ := trodAll_cons r4
  obtain ⟨v6, vs6, d6, ds6, p6, q6, rfl, rfl, rfl, h6, r6⟩ := trodAll_cons r5
  obtain ⟨v7, vs7, d7, ds7, p7, q7, rfl, rfl, rfl, h7, r7⟩ := trodAll_cons r6
  obtain ⟨rfl, rfl, rfl⟩ := trodAll_nil r7
  obtain rfl : args = #[v0, v1, v2, v3, v4, v5, v6, v7] := by cases args; simp_all
  obtain ⟨rfl, rfl⟩ := trodVars_none hV
  obtain ⟨a0, len0, cap0, rfl⟩ := okWide_slice Try.underlying22 (hval 0 22 v0 rfl rfl)
  have k0 := h0
  have lt0 : ∀ x ∈ p0, x.block < W.heap.size := by obtain ⟨m, hm⟩ := k0; exact DataW.trod_lt m _ _ _ hm
  obtain ⟨l0, R, A, J, hh⟩ : len0 ≤ maxLen ∧ ∃ R A J, HeldIn W a0 len0 cap0 R A J := by
    obtain ⟨fuel, hf⟩ := h0
    exact open_held hf
  obtain ⟨a1, len1, cap1, rfl⟩ := okWide_slice Try.underlying32 (hval 1 32 v1 rfl rfl)
  have k1 := h1
  have lt1 : ∀ x ∈ p1, x.block < W.heap.size := by obtain ⟨m, hm⟩ := k1; exact DataW.trod_lt m _ _ _ hm
  obtain ⟨l1, Q, hr⟩ : len1 ≤ maxLen ∧ ∃ Q, RolesIn W a1 len1 Q := by
    obtain ⟨fuel, hf⟩ := h1
    exact open_roles hf
  obtain ⟨b2, rfl, rfl, rfl, w2⟩ := open_int Try.underlying2 (hval 2 2 v2 rfl rfl) h2
  obtain ⟨b3, rfl, rfl, rfl, w3⟩ := open_int Try.underlying2 (hval 3 2 v3 rfl rfl) h3
  obtain ⟨b4, rfl, rfl, rfl, w4⟩ := open_int Try.underlying2 (hval 4 2 v4 rfl rfl) h4
  obtain ⟨b5, rfl, rfl, rfl⟩ := open_bool Try.underlying4 (hval 5 4 v5 rfl rfl) h5
  obtain ⟨b6, rfl, rfl, rfl, w6⟩ := open_int Try.underlying3 (hval 6 3 v6 rfl rfl) h6
  obtain ⟨b7, rfl, rfl, rfl, w7⟩ := open_int Try.underlying3 (hval 7 3 v7 rfl rfl) h7
  clear hA0 hval0
  refine (walk a0 a1 len0 cap0 len1 cap1 R A J Q b2 b3 b4 b6 b7 b5 W l0 l1 hh hr).mono fun e W' ⟨he, bel⟩ => ?_
  subst he
  exact ⟨_, rfl, _, _, _, [], _, [], hW', trodAll_mk1 (shut_bool Try.underlying4 _),
    (trodAll_cons_mk (Below.trod laidOut (by kernel_rfl) (of_decide_eq_true (by kernel_rfl)) k0 bel lt0)
      (trodAll_cons_mk (Below.trod laidOut (by kernel_rfl) (of_decide_eq_true (by kernel_rfl)) k1 bel lt1)
        (trodAll_cons_mk (shut_int Try.underlying2 w2) (trodAll_cons_mk (shut_int Try.underlying2 w3) (trodAll_cons_mk (shut_int Try.underlying2 w4)
          (trodAll_cons_mk (shut_bool Try.underlying4 b5) (trodAll_cons_mk (shut_int Try.underlying3 w6) (trodAll_cons_mk (shut_int Try.underlying3 w7) trodAll_mk0)))))))), rfl, bel.frame _, fun h => by cases h⟩

theorem over : Rows.fnHoldsInGrantingARoleRow.holds Try.pinned (OpenSpec.ofChange Rows.fnHoldsInGrantingARoleSpec) :=
  OpenClaim.holds_of_wide 5 Try.f5 rfl rfl rfl rfl rfl rfl rfl ⟨rfl, rfl, rfl, rfl, rfl⟩ rfl rfl rfl rfl rfl (by kernel_rfl) Try.func5 (by kernel_rfl)
    (of_decide_eq_true (by kernel_rfl)) (by unfold Func.isWrapper; first | (rw [if_pos (by decide +kernel)]; kernel_rfl) | (rw [if_neg (by decide +kernel)]; exact ⟨rfl, rfl⟩))
    (fun os started H enc _ => lifted os started H enc)

/-- THE STATEMENT -/
theorem proved : Rows.FnHoldsInGrantingARoleSaid := over
end Go.Proofs.Qxb6618129a.fnHoldsInGrantingARole
