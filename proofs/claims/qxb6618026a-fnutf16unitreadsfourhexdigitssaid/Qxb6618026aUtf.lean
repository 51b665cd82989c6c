import Derived.Test.Qxb6618026aUnit
namespace Go.Proofs.Qxb6618026a
open Go.RowKit
/-! ### utf16Unit -/
theorem utf_short (a : Option Addr) (len cap : Nat) (z : Nat → Int) (w : World) (h : len < 6) :
    Calls Try.prog 19 #[.slice a len cap] w fun e w' => e = .returned (.tuple #[.int .i32 (unitOf len z), .bool (escB len z)]) ∧ w' = w := by
  rw [unitOf_no len z (escB_short len z h), escB_short len z h]
  go_enter Try.func19, Try.ntmps19
  go_wp2
  go_ret2
  exact ⟨rfl, rfl⟩

theorem low_lower (c : Int) (h1 : 97 ≤ c) (h2 : c ≤ 102) : bits .or .u8 c 32 = c := by
  rw [or32 c (by omega) (by omega)]; unfold lowI; rw [if_pos (by omega)]
theorem low_upper (c : Int) (h1 : 65 ≤ c) (h2 : c ≤ 70) : bits .or .u8 c 32 = c + 32 := by
  rw [or32 c (by omega) (by omega)]; unfold lowI; rw [if_neg (by omega)]
theorem low_other (c : Int) (h1 : 0 ≤ c) (h2 : c ≤ 255) (h : hexB c = false) (_hd : ¬ (48 ≤ c ∧ c ≤ 57)) : bits .or .u8 c 32 < 97 ∨ 102 < bits .or .u8 c 32 := by
  rw [or32 c (by omega) (by omega)]
  unfold hexB at h
  simp only [decide_eq_false_iff_not] at h
  unfold lowI
  split <;> omega

theorem pow_le (k : Nat) (h : k < 4) : (16 : Int) ^ k ≤ 4096 := by
  match k, h with
  | 0, _ => decide
  | 1, _ => decide
  | 2, _ => decide
  | 3, _ => decide
theorem step_val (z : Nat → Int) (k : Nat) (hk : k < 4) (hx : hexes z k = true) (d : Int) (h0 : 0 ≤ d) (h1 : d < 16) (hd : d = dv (z (2 + k))) :
    Value.int IntKind.i32 (bits .or .i32 (wrap32 (uv z k * 16)) d) = Value.int IntKind.i32 (uv z (k + 1)) := by
  have hu := uv_range z k hx
  have hp := pow_le k hk
  have e : wrap32 (uv z k * 16) = uv z k * 16 := by unfold wrap32; omega
  rw [e, i32_or4 _ _ (by omega) (by omega) (by omega) h0 h1, hd]
  rfl

set_option maxHeartbeats 1000000 in
theorem utf_long (b off len cap : Nat) (z : Nat → Int) (w : World) (h : 6 ≤ len) (hlc : len ≤ cap) (hm : cap ≤ maxLen) (hz : ∀ i, i < 6 → 0 ≤ z i ∧ z i ≤ 255) (hc : ∀ i, i < 6 → w.cell? ⟨b, off + i, none⟩ = some (.int .u8 (z i))) :
    Calls Try.prog 19 #[.slice (some ⟨b, off, none⟩) len cap] w fun e w' => e = .returned (.tuple #[.int .i32 (unitOf len z), .bool (escB len z)]) ∧ w' = w := by
  unfold maxLen at hm
  have hc0 : w.cell? ⟨b, off, none⟩ = some (.int .u8 (z 0)) := hc 0 (by omega)
  have hc1 : w.cell? ⟨b, off + 1, none⟩ = some (.int .u8 (z 1)) := hc 1 (by omega)
  have l0 : (0 : Int) < (len : Int) := by omega
  have l1 : (1 : Int) < (len : Int) := by omega
  have l6 : ¬ (len : Int) < 6 := by omega
  by_cases h0 : z 0 = 92
  · by_cases h1 : z 1 = 117
    · have e0 : (z 0 != 92) = false := by simp [h0]
      have e1 : (z 1 != 117) = false := by simp [h1]
      have H0 : Hid (z 0 = 92) := h0
      have H1 : Hid (z 1 = 117) := h1
      clear h0 h1
      go_enter Try.func19, Try.ntmps19
      go_wp2
      go_loop [4, 26] (fun u i => ∃ k : Nat, k ≤ 4 ∧ i = .int .i64 (k : Int) ∧ u = .int .i32 (uv z k) ∧ hexes z k = true) (fun _ i => 4 - (intOf i).toNat)
      case atStart => exact ⟨0, by omega, rfl, rfl, rfl⟩
      case round =>
        obtain ⟨k, hk, rfl, rfl, hx⟩ := hrel
        by_cases hlt : k < 4
        · have hck : w.cell? ⟨b, off + 2 + k, none⟩ = some (.int .u8 (z (2 + k))) := by rw [Nat.add_assoc]; exact hc (2 + k) (by omega)
          have hs := hexes_succ z k
          have hzk := hz (2 + k) (by omega)
          have HX : Hid (hexes z k = true) := hx
          rw [hx, Bool.true_and] at hs
          have HS : Hid (hexes z (k + 1) = hexB (z (2 + k))) := hs
          clear hs hx
          by_cases hd : 48 ≤ z (2 + k) ∧ z (2 + k) ≤ 57
          · obtain ⟨hd1, hd2⟩ := hd
            have HV : Hid (z (2 + k) - 48 = dv (z (2 + k))) := by show _ = _; unfold dv; rw [if_pos hd2]
            have HB : Hid (hexB (z (2 + k)) = true) := by show _ = _; unfold hexB; simp; omega
            go_wp2
            go_round
            case rel => exact ⟨k + 1, by omega, by go_num, step_val z k hlt HX.out _ (by omega) (by omega) HV.out, HS.out.trans HB.out⟩
            case measure => simp [intOf]; omega
          · by_cases hl : 97 ≤ z (2 + k) ∧ z (2 + k) ≤ 102
            · obtain ⟨hl1, hl2⟩ := hl
              have hlow := low_lower _ hl1 hl2
              have HV : Hid (z (2 + k) - 97 + 10 = dv (z (2 + k))) := by show _ = _; unfold dv; rw [if_neg (by omega), if_pos (by omega)]; omega
              have HB : Hid (hexB (z (2 + k)) = true) := by show _ = _; unfold hexB; simp; omega
              have hd2 : ¬ z (2 + k) ≤ 57 := by omega
              clear hd
              go_wp2
              go_round
              case rel => exact ⟨k + 1, by omega, by go_num, step_val z k hlt HX.out _ (by omega) (by omega) HV.out, HS.out.trans HB.out⟩
              case measure => simp [intOf]; omega
            · by_cases hg : 65 ≤ z (2 + k) ∧ z (2 + k) ≤ 70
              · obtain ⟨hl1, hl2⟩ := hg
                have hlow := low_upper _ hl1 hl2
                have HV : Hid (z (2 + k) + 32 - 97 + 10 = dv (z (2 + k))) := by show _ = _; unfold dv; rw [if_neg (by omega), if_neg (by omega)]; omega
                have HB : Hid (hexB (z (2 + k)) = true) := by show _ = _; unfold hexB; simp; omega
                have hd2 : ¬ z (2 + k) ≤ 57 := by omega
                clear hd hl
                go_wp2
                go_round
                case rel => exact ⟨k + 1, by omega, by go_num, step_val z k hlt HX.out _ (by omega) (by omega) HV.out, HS.out.trans HB.out⟩
                case measure => simp [intOf]; omega
              · have hb : hexB (z (2 + k)) = false := by unfold hexB; simp; omega
                have hlow := low_other _ hzk.1 hzk.2 hb hd
                have HE : Hid (escB len z = false) := escB_hex len z (hexes_mono z (k + 1) 4 (by omega) (HS.out.trans hb))
                obtain ⟨L, hL⟩ : ∃ L, L = bits .or .u8 (z (2 + k)) 32 := ⟨_, rfl⟩
                rw [← hL] at hlow
                have hL' := hL.symm
                clear hb hg hl hL
                by_cases hd1 : 48 ≤ z (2 + k)
                · have hd2 : ¬ z (2 + k) ≤ 57 := by omega
                  clear hd
                  rcases hlow with hlow | hlow
                  · go_wp2
                    go_ret2
                    exact ⟨by rw [unitOf_no len z HE.out, HE.out]; rfl, rfl⟩
                  · have hlow2 : 97 ≤ L := by omega
                    go_wp2
                    go_ret2
                    exact ⟨by rw [unitOf_no len z HE.out, HE.out]; rfl, rfl⟩
                · clear hd
                  rcases hlow with hlow | hlow
                  · go_wp2
                    go_ret2
                    exact ⟨by rw [unitOf_no len z HE.out, HE.out]; rfl, rfl⟩
                  · have hlow2 : 97 ≤ L := by omega
                    go_wp2
                    go_ret2
                    exact ⟨by rw [unitOf_no len z HE.out, HE.out]; rfl, rfl⟩
        · obtain rfl : k = 4 := by omega
          have HE : Hid (escB len z = true) := escB_yes len z h H0.out H1.out hx
          clear hx
          go_wp2
          go_ret2
          exact ⟨by rw [unitOf_yes len z HE.out, HE.out]; rfl, rfl⟩
    · have e0 : (z 0 != 92) = false := by simp [h0]
      have e1 : (z 1 != 117) = true := by simp [h1]
      rw [unitOf_no len z (escB_head len z (.inr h1)), escB_head len z (.inr h1)]
      clear h0 h1
      go_enter Try.func19, Try.ntmps19
      go_wp2
      go_ret2
      exact ⟨rfl, rfl⟩
  · have e0 : (z 0 != 92) = true := by simp [h0]
    rw [unitOf_no len z (escB_head len z (.inl h0)), escB_head len z (.inl h0)]
    clear h0
    go_enter Try.func19, Try.ntmps19
    go_wp2
    go_ret2
    exact ⟨rfl, rfl⟩

/-- what is known of a slice of bytes: of 6 or more elements: where it lies, and its first six cells -/
def Six (w : World) (a : Option Addr) (len cap : Nat) (z : Nat → Int) : Prop :=
  6 ≤ len → len ≤ cap ∧ cap ≤ maxLen ∧ ∃ b off, a = some ⟨b, off, none⟩ ∧ (∀ i, i < 6 → 0 ≤ z i ∧ z i ≤ 255) ∧ ∀ i, i < 6 → w.cell? ⟨b, off + i, none⟩ = some (.int .u8 (z i))

theorem utf_any (a : Option Addr) (len cap : Nat) (z : Nat → Int) (w : World) (h : Six w a len cap z) :
    Calls Try.prog 19 #[.slice a len cap] w fun e w' => e = .returned (.tuple #[.int .i32 (unitOf len z), .bool (escB len z)]) ∧ w' = w := by
  by_cases hl : len < 6
  · exact utf_short a len cap z w hl
  · obtain ⟨h1, h2, b, off, rfl, h3, h4⟩ := h (by omega)
    exact utf_long b off len cap z w (by omega) h1 h2 h3 h4

theorem esc_any (a : Option Addr) (len cap : Nat) (z : Nat → Int) (w : World) (h : Six w a len cap z) :
    Calls Try.prog 9 #[.slice a len cap] w fun e w' => e = .returned (.bool (escB len z)) ∧ w' = w := by
  by_cases hl : len < 6
  · exact esc_short a len cap z w hl
  · obtain ⟨h1, h2, b, off, rfl, h3, h4⟩ := h (by omega)
    exact esc_long b off len cap z w (by omega) (by omega) h4

theorem zzutf_any (a : Option Addr) (len cap : Nat) (z : Nat → Int) (w : World) (h : Six w a len cap z) :
    Calls Try.prog 8 #[.slice a len cap] w fun e w' => e = .returned (.tuple #[.int .i32 (unitOf len z), .bool (escB len z)]) ∧ w' = w := by
  go_enter Try.func8, Try.ntmps8
  go_wp2_with (go_at_call 19; refine (utf_any _ _ _ z _ h).mono ?_; rintro e w' ⟨rfl, rfl⟩)
  go_ret2
  exact ⟨rfl, rfl⟩
end Go.Proofs.Qxb6618026a
