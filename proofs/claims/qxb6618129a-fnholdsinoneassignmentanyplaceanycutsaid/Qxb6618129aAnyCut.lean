import Derived.Test.Qxb6618129aOwn
import Derived.Deep.DeepCutAuto
namespace Go.Proofs.Qxb6618129a
open Go.RowKit

/-! ### zzBytes_FnHoldsInOneAssignmentAnyPlaceAnyCut -/
theorem bytes13_yes (a0 a1 : Option Addr) (l0 c0 l1 c1 : Nat) (p i k r j : Int) (ad : Bool) (w : World) (h : l0 + l1 ≤ 1048576) :
    Calls Try.prog 13 #[.slice a0 l0 c0, .slice a1 l1 c1, .int .i64 p, .int .i64 i, .agg #[.int .i64 r, .bool ad, .int .i64 j], .int .i64 k] w fun e w' => e = .returned (.bool true) ∧ Below w.heap.size w w' := by
  go_enter Try.func13, Try.ntmps13
  go_wp2
  go_ret
  exact ⟨rfl, (Below.refl _ _).alloc (Nat.le_refl _) _⟩
theorem bytes13_no (a0 a1 : Option Addr) (l0 c0 l1 c1 : Nat) (p i k r j : Int) (ad : Bool) (w : World) (m0 : l0 ≤ maxLen) (m1 : l1 ≤ maxLen) (h : 1048576 < l0 + l1) :
    Calls Try.prog 13 #[.slice a0 l0 c0, .slice a1 l1 c1, .int .i64 p, .int .i64 i, .agg #[.int .i64 r, .bool ad, .int .i64 j], .int .i64 k] w fun e w' => e = .returned (.bool false) ∧ Below w.heap.size w w' := by
  unfold maxLen at m0 m1
  by_cases h0 : 1048576 < l0
  · go_enter Try.func13, Try.ntmps13
    go_wp2
    go_ret
    exact ⟨rfl, (Below.refl _ _).alloc (Nat.le_refl _) _⟩
  · by_cases h1 : 1048576 < l1
    · go_enter Try.func13, Try.ntmps13
      go_wp2
      go_ret
      exact ⟨rfl, (Below.refl _ _).alloc (Nat.le_refl _) _⟩
    · go_enter Try.func13, Try.ntmps13
      go_wp2
      go_ret
      exact ⟨rfl, (Below.refl _ _).alloc (Nat.le_refl _) _⟩

set_option maxHeartbeats 2000000 in
set_option maxRecDepth 10000 in
theorem core4 (a0 a1 : Option Addr) (len cap m cm i k : Nat) (R : Nat → Int) (A : Nat → Bool) (J Q : Nat → Int) (p r j : Int) (ad : Bool) (w : World)
    (hl : len ≤ 16384) (hm : m ≤ 65536) (hi : i ≤ len) (hk : k ≤ len) (hh : HeldIn w a0 len cap R A J) (hr : RolesIn w a1 m Q) :
    Calls Try.prog 4 #[.slice a0 len cap, .slice a1 m cm, .int .i64 p, .int .i64 (i : Int), .agg #[.int .i64 r, .bool ad, .int .i64 j], .int .i64 (k : Int)] w fun e w' => e = .returned (.bool true) ∧ Below w.heap.size w w' := by
  have hmk := run_make_row' (P := Try.prog) 32 2 (.int .i64 0) 8 Try.underlying32 info2 rfl .i64 .i64 m (by omega) (by omega)
  have hne := fun (w : World) (a : Option Addr) (n c n' c' : Nat) => run_neq_slice_nil_any (P := Try.prog) w 32 2 a n c n' c' Try.underlying32
  go_enter Try.func4, Try.ntmps4
  go_wp2_with fail
  refine (bytes13_yes _ _ _ _ _ _ _ _ _ _ _ _ _ (by omega)).mono ?_
  rintro e W0 ⟨rfl, hb0⟩
  have hbA : Below (w.heap.size + 1) (w.alloc (.cells #[.int .i64 r, .bool ad, .int .i64 j] 24)) W0 := hb0.mono (by simp)
  have hbw : Below w.heap.size w W0 := ((Below.refl _ _).alloc (Nat.le_refl _) _).trans (hbA.mono (by omega))
  clear hb0
  go_upto_if 53 with fail
  go_cut [1] (fun s wc => ∃ ar cr, s = .slice ar m cr ∧ RolesV wc ar m Q ∧ Below W0.heap.size W0 wc)
  case first =>
    rcases hr with ⟨rfl, hmz⟩ | ⟨x, rfl, hcx⟩
    · go_wp2
      go_meet
      case rel => exact ⟨none, cm, rfl, .inl (by omega), Below.refl _ _⟩
    · obtain ⟨W1, hcp, hrow, hb1, hs1⟩ := copy_new W0 x m cm Q (fun i hi => (hbw.cell (block_lt_of_cell (hcx i hi))).trans (hcx i hi))
      have HROW : Hid (W1.rowIs W0.heap.size 2 m (fun j => .int .i64 (Q j))) := hrow
      clear hrow hs1
      go_wp2
      go_meet
      case rel => exact ⟨_, _, rfl, .inr ⟨W0.heap.size, 0, rfl, fun i hi => by rw [Nat.zero_add]; exact HROW.out.cell hi⟩, hb1⟩
  case rest =>
    obtain ⟨ar, cr, rfl, hrv, hbc⟩ := hcut
    clear hmk hne hr
    have hbw1 : Below w.heap.size w wc := hbw.trans (hbc.mono hbw.size)
    have hh1 : HeldIn wc a0 len cap R A J := hh.kept hbw1
    have hlm : m ≤ 9223372036854775807 := by omega
    have hll : len ≤ 9223372036854775807 := by omega
    go_wp2_with fail
    refine (held_any a0 len cap R A J _ hl hh1).mono ?_
    rintro e W2 ⟨ah, ch, rfl, hown, hb2⟩
    have hrv2 := hrv.kept hb2
    go_wp2_with fail
    refine (holds_any ah len ch R A J ar m cr Q p _ hll hlm hown.view hrv2).mono ?_
    rintro e W3 ⟨rfl, hb3⟩
    have hown3 := hown.kept hb3
    have hrv3 := hrv2.kept hb3
    have hbA3 : Below (w.heap.size + 1) (w.alloc (.cells #[.int .i64 r, .bool ad, .int .i64 j] 24)) W3 := (((hbA.trans (hbc.mono (by have := hbA.size; simp at this; omega))).trans (hb2.mono (by have := hbA.size; have := hbc.size; simp at *; omega))).trans (hb3.mono (by have := hbA.size; have := hbc.size; have := hb2.size; simp at *; omega)))
    go_upto_region 15 with fail
    obtain ⟨a1', c1', a2', c2', hcut1, hcut2, hv1, hv2⟩ := own_cuts hown3 k hk
    go_cut [16] (fun s wd => s = .bool (hldB k R J m Q p || hldB (len - k) (fun n => R (k + n)) (fun n => J (k + n)) m Q p) ∧ Below W3.heap.size W3 wd)
    case first =>
      cases hP1 : hldB k R J m Q p with
      | true =>
        go_wp2_with fail
        refine (holds_any a1' k c1' R A J ar m cr Q p _ (by omega) hlm hv1 hrv3).mono ?_
        rintro e W4 ⟨rfl, hb4⟩
        go_wp2
        go_meet
        case rel => exact ⟨by rw [hP1, Bool.true_or], hb4⟩
      | false =>
        go_wp2_with fail
        refine (holds_any a1' k c1' R A J ar m cr Q p _ (by omega) hlm hv1 hrv3).mono ?_
        rintro e W4 ⟨rfl, hb4⟩
        go_wp2_with fail
        refine (holds_any a2' (len - k) c2' _ _ _ ar m cr Q p _ (by omega) hlm (hv2.kept hb4) (hrv3.kept hb4)).mono ?_
        rintro e W5 ⟨rfl, hb5⟩
        go_wp2
        go_meet
        case rel => exact ⟨by rw [hP1, Bool.false_or], hb4.trans (hb5.mono hb4.size)⟩
    case rest =>
      obtain ⟨rfl, hb4⟩ := hcut
      rw [← hldB_split k len R J m Q p hk]
      clear hcut1 hcut2 hv1 hv2
      have hown4 := hown3.kept hb4
      have hrv4 := hrv3.kept hb4
      have hs3 : w.heap.size + 1 ≤ W3.heap.size := by have := hbA3.size; simpa using this
      have hbA4 := hbA3.trans (hb4.mono hs3)
      have hs4 : w.heap.size + 1 ≤ wc.heap.size := by have := hb4.size; omega
      have hx0 : wc.cell? ⟨w.heap.size, 0, none⟩ = some (.int .i64 r) := by rw [hbA4.cell (p := ⟨w.heap.size, 0, none⟩) (by simp)]; simp
      have hx1 : wc.cell? ⟨w.heap.size, 1, none⟩ = some (.bool ad) := by rw [hbA4.cell (p := ⟨w.heap.size, 1, none⟩) (by simp)]; simp
      have hx2 : wc.cell? ⟨w.heap.size, 2, none⟩ = some (.int .i64 j) := by rw [hbA4.cell (p := ⟨w.heap.size, 2, none⟩) (by simp)]; simp
      go_wp2_with fail
      refine (one_any _ _ _ _).mono ?_
      rintro e W5 ⟨rfl, hb5⟩
      have hown5 := hown4.kept hb5
      have hrv5 := hrv4.kept hb5
      go_wp2_with fail
      refine (insert_any ah len ch i R A J r j ad _ hl hi hown5.view).mono ?_
      rintro e W6 ⟨rfl, hf6, hb6⟩
      have hown6 := hown5.kept hb6
      have hrv6 := hrv5.kept hb6
      go_wp2_with fail
      refine (holds_any _ (len + 1) _ (ins R i r) (ins A i ad) (ins J i j) ar m cr Q p _ (by omega) hlm (.inr ⟨_, 0, rfl, hf6.view (Nat.le_refl _)⟩) hrv6).mono ?_
      rintro e W7 ⟨rfl, hb7⟩
      have hown7 := hown6.kept hb7
      have hrv7 := hrv6.kept hb7
      rw [hldB_ins len i R J r j m Q p hi]
      have hbd : Below wc.heap.size wc W7 := (hb5.trans (hb6.mono hb5.size)).trans (hb7.mono (Nat.le_trans hb5.size hb6.size))
      have hbA7 := hbA4.trans (hbd.mono hs4)
      have hs7 : w.heap.size + 1 ≤ W7.heap.size := by have := hbd.size; omega
      clear hx0 hx1 hx2
      have hx0 : W7.cell? ⟨w.heap.size, 0, none⟩ = some (.int .i64 r) := by rw [hbA7.cell (p := ⟨w.heap.size, 0, none⟩) (by simp)]; simp
      have hx2 : W7.cell? ⟨w.heap.size, 2, none⟩ = some (.int .i64 j) := by rw [hbA7.cell (p := ⟨w.heap.size, 2, none⟩) (by simp)]; simp
      go_upto_region 17 with fail
      go_cut [18] (fun s we => s = .bool (cntB j p && hasB m Q r) ∧ we = W7)
      case first =>
        by_cases h0 : j = 0
        · have e0 : (j == 0) = true := by simp [h0]
          have hcb : Hid (cntB j p = true) := by show _ = _; unfold cntB; simp [h0]
          clear h0
          go_wp2_with fail
          refine (hasRole_any ar m cr Q r _ hlm hrv7).mono ?_
          rintro e w' ⟨rfl, hw⟩
          subst w'
          go_wp2
          go_meet
          case rel => exact ⟨by rw [hcb.out, Bool.true_and], rfl⟩
        · have e0 : (j == 0) = false := by simp [h0]
          by_cases h1 : j = p
          · have e1 : (j == p) = true := by simp [h1]
            have hcb : Hid (cntB j p = true) := by show _ = _; unfold cntB; simp [h1]
            clear h0 h1
            go_wp2_with fail
            refine (hasRole_any ar m cr Q r _ hlm hrv7).mono ?_
            rintro e w' ⟨rfl, hw⟩
            subst w'
            go_wp2
            go_meet
            case rel => exact ⟨by rw [hcb.out, Bool.true_and], rfl⟩
          · have e1 : (j == p) = false := by simp [h1]
            have hcb : Hid (cntB j p = false) := by show _ = _; unfold cntB; simp [h0, h1]
            clear h0 h1
            go_wp2
            go_meet
            case rel => exact ⟨by rw [hcb.out, Bool.false_and], rfl⟩
      case rest =>
        obtain ⟨rfl, hw⟩ := hcut
        subst wc
        have HZ : Hid (hldB len R J m Q 0 = true → hldB len R J m Q p = true) := hldB_zero len R J m Q p
        obtain ⟨Bv, hBv⟩ : ∃ Bv, Bv = hldB len R J m Q p := ⟨_, rfl⟩
        obtain ⟨Cv, hCv⟩ : ∃ Cv, Cv = (cntB j p && hasB m Q r) := ⟨_, rfl⟩
        obtain ⟨Zv, hZv⟩ : ∃ Zv, Zv = hldB len R J m Q 0 := ⟨_, rfl⟩
        rw [← hBv, ← hZv] at HZ
        rw [← hBv, ← hCv]
        clear hBv hCv
        have HZv : Hid (Zv = hldB len R J m Q 0) := hZv
        clear hZv
        go_upto_region 18 with fail
        go_cut [19] (fun s we => s = .bool (!Zv || Bv) ∧ Below W7.heap.size W7 we)
        case first =>
          cases Zv with
          | true =>
            go_wp2_with fail
            refine (holds_any ah len ch R A J ar m cr Q 0 _ hll hlm hown7.view hrv7).mono ?_
            rintro e W8 ⟨rfl, hb8⟩
            rw [← HZv.out]
            go_wp2
            go_meet
            case rel => exact ⟨rfl, hb8⟩
          | false =>
            go_wp2_with fail
            refine (holds_any ah len ch R A J ar m cr Q 0 _ hll hlm hown7.view hrv7).mono ?_
            rintro e W8 ⟨rfl, hb8⟩
            rw [← HZv.out]
            go_wp2
            go_meet
            case rel => exact ⟨rfl, hb8⟩
        case rest =>
          obtain ⟨rfl, hb8⟩ := hcut
          have hfin : Below w.heap.size w wc := (((Below.refl _ _).alloc (Nat.le_refl _) _).trans (hbA7.mono (by omega))).trans (hb8.mono (by omega))
          have hzb : Hid (Zv = true → Bv = true) := HZ
          clear HZ HZv
          have hfb : Hid ((!Zv || Bv) = true) := by
            show _ = _
            cases Zv with
            | false => rfl
            | true => rw [hzb.out rfl]; rfl
          rw [hfb.out]
          cases Bv with
          | true =>
            go_wp2
            go_ret
            exact ⟨rfl, hfin⟩
          | false =>
            cases Cv with
            | true =>
              go_wp2
              go_ret
              exact ⟨rfl, hfin⟩
            | false =>
              go_wp2
              go_ret
              exact ⟨rfl, hfin⟩
end Go.Proofs.Qxb6618129a
