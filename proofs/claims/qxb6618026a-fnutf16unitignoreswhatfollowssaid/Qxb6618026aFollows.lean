import Derived.Test.Qxb6618026aCopy
namespace Go.Proofs.Qxb6618026a
open Go.RowKit

theorem zzutf_as (a : Option Addr) (len cap : Nat) (z : Nat → Int) (w : World) (h : Six w a len cap z) (u : Int) (b : Bool) (hu : unitOf len z = u) (hb : escB len z = b) :
    Calls Try.prog 8 #[.slice a len cap] w fun e w' => e = .returned (.tuple #[.int .i32 u, .bool b]) ∧ w' = w := by
  subst hu; subst hb; exact zzutf_any a len cap z w h
theorem esc_as (a : Option Addr) (len cap : Nat) (z : Nat → Int) (w : World) (h : Six w a len cap z) (b : Bool) (hb : escB len z = b) :
    Calls Try.prog 9 #[.slice a len cap] w fun e w' => e = .returned (.bool b) ∧ w' = w := by
  subst hb; exact esc_any a len cap z w h

/-- the two texts, one behind the other -/
def joinF (n : Nat) (z0 z1 : Nat → Int) : Nat → Int := fun j => if j < n then z0 j else z1 (j - n)
theorem joinF_lt {n : Nat} {z0 z1 : Nat → Int} {j : Nat} (h : j < n) : z0 j = joinF n z0 z1 j := by simp [joinF, h]
theorem joinF_ge {n : Nat} {z0 z1 : Nat → Int} {j : Nat} : z1 j = joinF n z0 z1 (n + j) := by
  unfold joinF; rw [if_neg (by omega)]; congr 1; omega
theorem joinF_range {n : Nat} {z0 z1 : Nat → Int} (h0 : ∀ i, 0 ≤ z0 i ∧ z0 i ≤ 255) (h1 : ∀ i, 0 ≤ z1 i ∧ z1 i ≤ 255) (i : Nat) : 0 ≤ joinF n z0 z1 i ∧ joinF n z0 z1 i ≤ 255 := by
  unfold joinF; split
  · exact h0 _
  · exact h1 _

theorem cases3 (n m : Nat) (z0 z1 : Nat → Int) :
    (∃ U, 6 ≤ n ∧ unitOf n z0 = U ∧ escB n z0 = true ∧ unitOf (n + m) (joinF n z0 z1) = U ∧ escB (n + m) (joinF n z0 z1) = true) ∨
    (6 ≤ n ∧ unitOf n z0 = 0 ∧ escB n z0 = false ∧ unitOf (n + m) (joinF n z0 z1) = 0 ∧ escB (n + m) (joinF n z0 z1) = false) ∨
    (n < 6 ∧ unitOf n z0 = 0 ∧ escB n z0 = false ∧ ∃ U E, unitOf (n + m) (joinF n z0 z1) = U ∧ escB (n + m) (joinF n z0 z1) = E) := by
  by_cases h : n < 6
  · exact .inr (.inr ⟨h, unitOf_no _ _ (escB_short n z0 h), escB_short n z0 h, _, _, rfl, rfl⟩)
  · have h6 : 6 ≤ n := by omega
    have hu := unitOf_congr n (n + m) z0 (joinF n z0 z1) h6 (by omega) (fun i hi => joinF_lt (by omega))
    have he := escB_congr n (n + m) z0 (joinF n z0 z1) h6 (by omega) (fun i hi => joinF_lt (by omega))
    rw [← hu, ← he]
    cases e : escB n z0 with
    | true => exact .inl ⟨_, h6, rfl, rfl, rfl, rfl⟩
    | false => exact .inr (.inl ⟨h6, unitOf_no _ _ e, rfl, unitOf_no _ _ e, rfl⟩)

/-- the new row J of n bytes is filled with z up to place m -/
def Filled (wr : World) (J n : Nat) (z : Nat → Int) (m : Nat) : Prop := wr.rowIs J 5 n (fun j => .int .u8 (if j < m then z j else 0))
theorem filled_made (w : World) (n : Nat) (z : Nat → Int) : Filled (w.alloc (.cells (madeCells #[.int .u8 0] n) 5)) w.heap.size n z 0 :=
  (World.rowIs_made w (.int .u8 0) n 5).congr (fun i _ => by simp)
theorem Filled.step {w : World} {J n m : Nat} {z : Nat → Int} (h : Filled w J n z m) {v : Int} (hv : v = z m) : Filled (w.setCell ⟨J, m, none⟩ (.int .u8 v)) J n z (m + 1) := row_step h hv
theorem Filled.cell {w : World} {J n m i : Nat} {z : Nat → Int} (h : Filled w J n z m) (hi : i < n) : ∃ v, w.cell? ⟨J, i, none⟩ = some (.int .u8 v) := ⟨_, World.rowIs.cell h hi⟩
theorem Filled.frozen {w : World} {J n m : Nat} {z : Nat → Int} (h : Filled w J n z m) (i : Nat) : w.frozen? ⟨J, i, none⟩ = false := World.rowIs.frozen h i
theorem Filled.six {w : World} {J n : Nat} {z : Nat → Int} (h : Filled w J n z n) (hn : n ≤ maxLen) (hz : ∀ i, 0 ≤ z i ∧ z i ≤ 255) : Six w (some ⟨J, 0, none⟩) n n z :=
  six_row (World.rowIs.congr h (fun i hi => by simp [hi])) hn hz
theorem cell_kept2 {w W : World} {b o : Nat} {v : Value} (h : Below w.heap.size w W) (hc : w.cell? ⟨b, o, none⟩ = some v) : W.cell? ⟨b, o, none⟩ = some v :=
  (h.cell (block_lt_of_cell hc)).trans hc
theorem cell_kept {W wr : World} {b o : Nat} {v : Value} (h : Below W.heap.size W wr) (hc : W.cell? ⟨b, o, none⟩ = some v) : wr.cell? ⟨b, o, none⟩ = some v :=
  (h.cell (block_lt_of_cell hc)).trans hc

set_option maxHeartbeats 4000000 in
theorem core_nil (a1 : Option Addr) (len0 cap0 len1 cap1 : Nat) (z0 z1 : Nat → Int) (w : World) (hl0 : len0 ≤ 0)
    (h1 : len1 ≤ 0 ∨ ∃ b1 off1, a1 = some ⟨b1, off1, none⟩ ∧ ∀ i, i < len1 → w.cell? ⟨b1, off1 + i, none⟩ = some (.int .u8 (z1 i)))
    (r0 : ∀ i, 0 ≤ z0 i ∧ z0 i ≤ 255) (r1 : ∀ i, 0 ≤ z1 i ∧ z1 i ≤ 255) (_m0 : len0 ≤ 524288) (m1 : len1 ≤ 524288) :
    Calls Try.prog 4 #[.slice none len0 cap0, .slice a1 len1 cap1] w fun e w' => e = .returned (.bool true) ∧ Below w.heap.size w w' := by
  have hmk0 := run_make_row' (P := Try.prog) 22 5 (.int .u8 0) 1 Try.underlying22 info5 rfl .i64 .i64 len0 (by omega) (by omega)
  have hmk1 := run_make_row' (P := Try.prog) 22 5 (.int .u8 0) 1 Try.underlying22 info5 rfl .i64 .i64 (len0 + len1) (by omega) (by omega)
  rw [Int.natCast_add] at hmk1
  have hne := fun (w : World) (a : Option Addr) (n c n' c' : Nat) => run_neq_slice_nil_any (P := Try.prog) w 22 5 a n c n' c' Try.underlying22
  have hjr : Hid (∀ i, 0 ≤ joinF len0 z0 z1 i ∧ joinF len0 z0 z1 i ≤ 255) := joinF_range r0 r1
  obtain ⟨W1, rfl⟩ : ∃ W1, W1 = w := ⟨w, rfl⟩
  have hbW : Below W1.heap.size W1 W1 := Below.refl _ _
  have hBW : W1.heap.size ≤ W1.heap.size := Nat.le_refl _
  have HD6 : ∀ wr, Below W1.heap.size W1 wr → Six wr none len0 cap0 z0 := fun wr _ h6 => by omega
  rcases h1 with htl | ⟨b1, off1, rfl, htl⟩
  all_goals
    go_enter Try.func4, Try.ntmps4
    go_wp2_with (first | (go_at_call 11; refine (bytes11_yes _ _ _ _ _ _ _ (by omega)).mono ?_; rintro e w' ⟨rfl, hw⟩; subst w'))
    go_loopw [7] (fun i wr => ∃ k : Nat, k ≤ len0 ∧ i = .int .i64 (k : Int) ∧ Filled wr W1.heap.size (len0 + len1) (joinF len0 z0 z1) k ∧ Below W1.heap.size W1 wr)
      (fun i _ => len0 - (intOf i).toNat)
    case atStart => exact ⟨0, by omega, rfl, filled_made W1 _ _, (Below.refl _ _).alloc (Nat.le_refl _) _⟩
    case round =>
      obtain ⟨k, hk, rfl, hfk, hnx⟩ := hrel
      by_cases hlt : k < len0
      · exfalso; omega
      · obtain rfl : len0 = k := by omega
        go_wp2
        go_loopw [8] (fun i wr => ∃ k : Nat, k ≤ len1 ∧ i = .int .i64 (k : Int) ∧ Filled wr W1.heap.size (len0 + len1) (joinF len0 z0 z1) (len0 + k) ∧ Below W1.heap.size W1 wr)
          (fun i _ => len1 - (intOf i).toNat)
        case atStart => exact ⟨0, by omega, rfl, hfk, hnx⟩
        case round =>
          clear hfk hnx
          obtain ⟨k, hk, rfl, hfk, hnx⟩ := hrel
          by_cases hlt : k < len1
          · first
              | (exfalso; omega)
              | have hcx : wr.cell? ⟨b1, off1 + k, none⟩ = some (.int .u8 (z1 k)) := cell_kept hnx (cell_kept2 hbW (htl k hlt))
                obtain ⟨vj, hcj⟩ := hfk.cell (i := len0 + k) (by omega)
                have hfj := hfk.frozen (len0 + k)
                go_wp2
                go_roundw
                case rel => exact ⟨k + 1, by omega, by go_num, hfk.step joinF_ge, hnx.setCell (Nat.le_refl _) _⟩
                case measure => simp [intOf]; omega
          · obtain rfl : len1 = k := by omega
            have h6d := HD6 _ hnx
            have h6j : Six wr (some ⟨W1.heap.size, 0, none⟩) (len0 + len1) (len0 + len1) (joinF len0 z0 z1) := hfk.six (by unfold maxLen; omega) hjr.out
            have hfin := hbW.trans (hnx.mono hBW)
            rcases cases3 len0 len1 z0 z1 with ⟨U, h6, hu, he, huj, hej⟩ | ⟨h6, hu, he, huj, hej⟩ | ⟨h6, hu, he, U, E, huj, hej⟩
            · exfalso; omega
            · exfalso; omega
            · go_wp2_with fail
              refine (zzutf_as _ _ _ z0 _ h6d 0 false hu he).mono ?_
              rintro e w' ⟨rfl, hw⟩
              subst w'
              go_wp2_with fail
              refine (zzutf_as _ _ _ (joinF len0 z0 z1) _ h6j U E huj hej).mono ?_
              rintro e w' ⟨rfl, hw⟩
              subst w'
              go_wp2_with fail
              refine (esc_as _ _ _ z0 _ h6d false he).mono ?_
              rintro e w' ⟨rfl, hw⟩
              subst w'
              go_wp2
              go_ret
              exact ⟨rfl, hfin⟩

set_option maxHeartbeats 4000000 in
theorem core_some (x : Addr) (a1 : Option Addr) (len0 cap0 len1 cap1 : Nat) (z0 z1 : Nat → Int) (w : World) (h0 : ∀ i, i < len0 → w.cell? (x.add i) = some (.int .u8 (z0 i)))
    (h1 : len1 ≤ 0 ∨ ∃ b1 off1, a1 = some ⟨b1, off1, none⟩ ∧ ∀ i, i < len1 → w.cell? ⟨b1, off1 + i, none⟩ = some (.int .u8 (z1 i)))
    (r0 : ∀ i, 0 ≤ z0 i ∧ z0 i ≤ 255) (r1 : ∀ i, 0 ≤ z1 i ∧ z1 i ≤ 255) (_m0 : len0 ≤ 524288) (m1 : len1 ≤ 524288) :
    Calls Try.prog 4 #[.slice (some x) len0 cap0, .slice a1 len1 cap1] w fun e w' => e = .returned (.bool true) ∧ Below w.heap.size w w' := by
  have hmk0 := run_make_row' (P := Try.prog) 22 5 (.int .u8 0) 1 Try.underlying22 info5 rfl .i64 .i64 len0 (by omega) (by omega)
  have hmk1 := run_make_row' (P := Try.prog) 22 5 (.int .u8 0) 1 Try.underlying22 info5 rfl .i64 .i64 (len0 + len1) (by omega) (by omega)
  rw [Int.natCast_add] at hmk1
  have hne := fun (w : World) (a : Option Addr) (n c n' c' : Nat) => run_neq_slice_nil_any (P := Try.prog) w 22 5 a n c n' c' Try.underlying22
  have hjr : Hid (∀ i, 0 ≤ joinF len0 z0 z1 i ∧ joinF len0 z0 z1 i ≤ 255) := joinF_range r0 r1
  obtain ⟨W1, hcp, hrow, hbW, hsz⟩ := copy_new w x len0 cap0 z0 h0
  have HSZ : Hid (W1.heap.size = w.heap.size + 1) := hsz
  have hltD : w.heap.size < W1.heap.size := by omega
  have hBW : w.heap.size ≤ W1.heap.size := by omega
  clear hsz
  have HD6 : ∀ wr, Below W1.heap.size W1 wr → Six wr (some ⟨w.heap.size, 0, none⟩) len0 len0 z0 := fun wr hb => six_row (hrow.of_block (hb.block _ hltD)) (by unfold maxLen; omega) r0
  have HRW : Hid (W1.rowIs w.heap.size 5 len0 (fun j => .int .u8 (z0 j))) := hrow
  clear hrow
  rcases h1 with htl | ⟨b1, off1, rfl, htl⟩
  all_goals
    go_enter Try.func4, Try.ntmps4
    go_wp2_with (first | (go_at_call 11; refine (bytes11_yes _ _ _ _ _ _ _ (by omega)).mono ?_; rintro e w' ⟨rfl, hw⟩; subst w'))
    go_loopw [7] (fun i wr => ∃ k : Nat, k ≤ len0 ∧ i = .int .i64 (k : Int) ∧ Filled wr W1.heap.size (len0 + len1) (joinF len0 z0 z1) k ∧ Below W1.heap.size W1 wr)
      (fun i _ => len0 - (intOf i).toNat)
    case atStart => exact ⟨0, by omega, rfl, filled_made W1 _ _, (Below.refl _ _).alloc (Nat.le_refl _) _⟩
    case round =>
      obtain ⟨k, hk, rfl, hfk, hnx⟩ := hrel
      by_cases hlt : k < len0
      · have hcx : wr.cell? ⟨w.heap.size, k, none⟩ = some (.int .u8 (z0 k)) := cell_kept hnx (HRW.out.cell hlt)
        obtain ⟨vj, hcj⟩ := hfk.cell (i := k) (by omega)
        have hfj := hfk.frozen k
        go_wp2
        go_roundw
        case rel => exact ⟨k + 1, by omega, by go_num, hfk.step (joinF_lt hlt), hnx.setCell (Nat.le_refl _) _⟩
        case measure => simp [intOf]; omega
      · obtain rfl : len0 = k := by omega
        go_wp2
        go_loopw [8] (fun i wr => ∃ k : Nat, k ≤ len1 ∧ i = .int .i64 (k : Int) ∧ Filled wr W1.heap.size (len0 + len1) (joinF len0 z0 z1) (len0 + k) ∧ Below W1.heap.size W1 wr)
          (fun i _ => len1 - (intOf i).toNat)
        case atStart => exact ⟨0, by omega, rfl, hfk, hnx⟩
        case round =>
          clear hfk hnx
          obtain ⟨k, hk, rfl, hfk, hnx⟩ := hrel
          by_cases hlt : k < len1
          · first
              | (exfalso; omega)
              | have hcx : wr.cell? ⟨b1, off1 + k, none⟩ = some (.int .u8 (z1 k)) := cell_kept hnx (cell_kept2 hbW (htl k hlt))
                obtain ⟨vj, hcj⟩ := hfk.cell (i := len0 + k) (by omega)
                have hfj := hfk.frozen (len0 + k)
                go_wp2
                go_roundw
                case rel => exact ⟨k + 1, by omega, by go_num, hfk.step joinF_ge, hnx.setCell (Nat.le_refl _) _⟩
                case measure => simp [intOf]; omega
          · obtain rfl : len1 = k := by omega
            have h6d := HD6 _ hnx
            have h6j : Six wr (some ⟨W1.heap.size, 0, none⟩) (len0 + len1) (len0 + len1) (joinF len0 z0 z1) := hfk.six (by unfold maxLen; omega) hjr.out
            have hfin := hbW.trans (hnx.mono hBW)
            rcases cases3 len0 len1 z0 z1 with ⟨U, h6, hu, he, huj, hej⟩ | ⟨h6, hu, he, huj, hej⟩ | ⟨h6, hu, he, U, E, huj, hej⟩
            · go_wp2_with fail
              refine (zzutf_as _ _ _ z0 _ h6d U true hu he).mono ?_
              rintro e w' ⟨rfl, hw⟩
              subst w'
              go_wp2_with fail
              refine (zzutf_as _ _ _ (joinF len0 z0 z1) _ h6j U true huj hej).mono ?_
              rintro e w' ⟨rfl, hw⟩
              subst w'
              go_wp2_with fail
              refine (esc_as _ _ _ z0 _ h6d true he).mono ?_
              rintro e w' ⟨rfl, hw⟩
              subst w'
              go_wp2
              go_ret
              exact ⟨rfl, hfin⟩
            · go_wp2_with fail
              refine (zzutf_as _ _ _ z0 _ h6d 0 false hu he).mono ?_
              rintro e w' ⟨rfl, hw⟩
              subst w'
              go_wp2_with fail
              refine (zzutf_as _ _ _ (joinF len0 z0 z1) _ h6j 0 false huj hej).mono ?_
              rintro e w' ⟨rfl, hw⟩
              subst w'
              go_wp2_with fail
              refine (esc_as _ _ _ z0 _ h6d false he).mono ?_
              rintro e w' ⟨rfl, hw⟩
              subst w'
              go_wp2
              go_ret
              exact ⟨rfl, hfin⟩
            · go_wp2_with fail
              refine (zzutf_as _ _ _ z0 _ h6d 0 false hu he).mono ?_
              rintro e w' ⟨rfl, hw⟩
              subst w'
              go_wp2_with fail
              refine (zzutf_as _ _ _ (joinF len0 z0 z1) _ h6j U E huj hej).mono ?_
              rintro e w' ⟨rfl, hw⟩
              subst w'
              go_wp2_with fail
              refine (esc_as _ _ _ z0 _ h6d false he).mono ?_
              rintro e w' ⟨rfl, hw⟩
              subst w'
              go_wp2
              go_ret
              exact ⟨rfl, hfin⟩

end Go.Proofs.Qxb6618026a
