import Derived.Test.Qxb6618129aInsert
import Derived.Laws.CopyOwn
namespace Go.Proofs.Qxb6618129a
open Go.RowKit

/-- a list of assignments that the call made: nil, or a row of its own -/
def OwnH (w : World) (a : Option Addr) (len cap : Nat) (R : Nat → Int) (A : Nat → Bool) (J : Nat → Int) : Prop :=
  (a = none ∧ len = 0 ∧ cap = 0) ∨ ∃ N, a = some ⟨N, 0, none⟩ ∧ cap = len ∧ Filled3 w N len R A J len
theorem OwnH.kept {w w' : World} {a : Option Addr} {len cap : Nat} {R : Nat → Int} {A : Nat → Bool} {J : Nat → Int} (h : OwnH w a len cap R A J) (hb : Below w.heap.size w w') : OwnH w' a len cap R A J := by
  rcases h with h | ⟨N, h1, h2, h3⟩
  · exact .inl h
  · exact .inr ⟨N, h1, h2, h3.kept hb h3.lt⟩
theorem OwnH.view {w : World} {a : Option Addr} {len cap : Nat} {R : Nat → Int} {A : Nat → Bool} {J : Nat → Int} (h : OwnH w a len cap R A J) : HeldV w a len R A J := by
  rcases h with ⟨_, h, _⟩ | ⟨N, h1, h2, h3⟩
  · exact .inl h
  · exact .inr ⟨N, 0, h1, h3.view (Nat.le_refl _)⟩

/-! ### zzB1Held -/
theorem held_none (w : World) :
    Calls Try.prog 9 #[.slice none 0 0] w fun e w' => e = .returned (.slice none 0 0) ∧ w' = w := by
  have hne := fun (w : World) (a : Option Addr) (n c n' c' : Nat) => Lib.run_eql_slice_nil (P := Try.prog) w 22 24 a n c n' c' Try.underlying22
  go_enter Try.func9, Try.ntmps9
  go_wp2
  go_ret
  exact ⟨rfl, rfl⟩
theorem held_zero (x : Addr) (cap : Nat) (R : Nat → Int) (A : Nat → Bool) (J : Nat → Int) (w : World) :
    Calls Try.prog 9 #[.slice (some x) 0 cap] w fun e w' => e = .returned (.slice (some ⟨w.heap.size, 0, none⟩) 0 0) ∧ Filled3 w' w.heap.size 0 R A J 0 ∧ Below w.heap.size w w' := by
  have hmk : ∀ w, (Instr.makeSlice 26 (.int .i64 0) (.int .i64 0)).run Try.prog w = .ok (.slice (some ⟨w.heap.size, 0, none⟩) 0 0) (w.alloc (.cells (made3 0) 30)) := run_make30 0 (by omega)
  have hne := fun (w : World) (a : Option Addr) (n c n' c' : Nat) => Lib.run_eql_slice_nil (P := Try.prog) w 22 24 a n c n' c' Try.underlying22
  go_enter Try.func9, Try.ntmps9
  go_wp2
  refine wp_loop_rounds 1 ?_
  rw [rounds_succ]
  go_wp2
  go_ret
  exact ⟨rfl, filled3_made w 0 R A J, (Below.refl _ _).alloc (Nat.le_refl _) _⟩
/-- WHAT IS KNOWN OF THE LIST THAT CAME IN -/
def HeldIn (w : World) (a : Option Addr) (len cap : Nat) (R : Nat → Int) (A : Nat → Bool) (J : Nat → Int) : Prop :=
  (a = none ∧ len = 0 ∧ cap = 0) ∨ ((∃ x, a = some x) ∧ HeldV w a len R A J)
theorem held_any (a : Option Addr) (len cap : Nat) (R : Nat → Int) (A : Nat → Bool) (J : Nat → Int) (w : World) (hl : len ≤ 16384) (h : HeldIn w a len cap R A J) :
    Calls Try.prog 9 #[.slice a len cap] w fun e w' => ∃ a' c', e = .returned (.slice a' len c') ∧ OwnH w' a' len c' R A J ∧ Below w.heap.size w w' := by
  rcases h with ⟨rfl, rfl, rfl⟩ | ⟨⟨x, rfl⟩, h | ⟨b, off, hx, hc⟩⟩
  · exact (held_none w).mono fun e w' ⟨he, hw⟩ => ⟨none, 0, he, .inl ⟨rfl, rfl, rfl⟩, hw ▸ Below.refl _ _⟩
  · subst h
    exact (held_zero x cap R A J w).mono fun e w' ⟨he, hf, hb⟩ => ⟨_, _, he, .inr ⟨_, rfl, rfl, hf⟩, hb⟩
  · cases hx
    exact (held_some b off len cap R A J w hl hc).mono fun e w' ⟨he, hf, hb⟩ => ⟨_, _, he, .inr ⟨_, rfl, rfl, hf⟩, hb⟩

/-! ### the cuts h[:k], h[k:] -/
theorem sized30 (w : World) : (sizeOf (Try.prog.elem 26)).run Try.prog w = .ok 3 w := by kernel_rfl
theorem elem26 : Try.prog.underlying 26 = some (.slice (Try.prog.elem 26)) := by kernel_rfl
theorem own_cuts {w : World} {a : Option Addr} {len cap : Nat} {R : Nat → Int} {A : Nat → Bool} {J : Nat → Int} (h : OwnH w a len cap R A J) (k : Nat) (hk : k ≤ len) :
    ∃ a1 c1 a2 c2, (∀ w', (Instr.slice 26 (.slice a len cap) none (some (.int .i64 (k : Int))) none).run Try.prog w' = .ok (.slice a1 k c1) w') ∧
      (∀ w', (Instr.slice 26 (.slice a len cap) (some (.int .i64 (k : Int))) none none).run Try.prog w' = .ok (.slice a2 (len - k) c2) w') ∧
      HeldV w a1 k R A J ∧ HeldV w a2 (len - k) (fun n => R (k + n)) (fun n => A (k + n)) (fun n => J (k + n)) := by
  have hlc : len ≤ cap := by rcases h with ⟨_, h1, h2⟩ | ⟨N, _, h2, _⟩ <;> omega
  refine ⟨if cap = 0 then a else a.map (·.add (0 * 3)), cap, if cap = k then a else a.map (·.add (k * 3)), cap - k, fun w' => ?_, fun w' => ?_, ?_, ?_⟩
  · rw [run_slice_h w' 26 a len cap elem26 .i64 k (by omega) (by omega), sized30]
    simp [Result.andThen, sliced]
  · rw [run_slice_l w' 26 a len cap elem26 .i64 k (by omega) (by omega), sized30]
    simp [Result.andThen, sliced]
  · rcases h with ⟨rfl, rfl, rfl⟩ | ⟨N, rfl, rfl, hf⟩
    · exact .inl (by omega)
    · refine .inr ⟨N, 0, ?_, fun i hi => hf.view (Nat.le_refl _) i (by omega)⟩
      split <;> simp [Addr.add]
  · rcases h with ⟨rfl, rfl, rfl⟩ | ⟨N, rfl, rfl, hf⟩
    · exact .inl (by omega)
    · by_cases e : cap = k
      · exact .inl (by omega)
      · refine .inr ⟨N, k * 3, ?_, fun i hi => ?_⟩
        · rw [if_neg e]; simp [Addr.add]; omega
        · have hv := hf.view (Nat.le_refl _) (k + i) (by omega)
          rw [show k * 3 + i * 3 = 0 + (k + i) * 3 by omega]
          exact hv

/-! ### roles: 'copy' into a new row of its own -/
theorem copy_new (w : World) (x : Addr) (len cap : Nat) (z : Nat → Int) (hc : ∀ i, i < len → w.cell? (x.add i) = some (.int .i64 (z i))) :
    ∃ W1, (Builtin.copy_ #[32, 32] 3 #[.slice (some ⟨w.heap.size, 0, none⟩) len len, .slice (some x) len cap]).run Try.prog (w.alloc (.cells (madeCells #[.int .i64 0] len) 2)) = .ok (goInt len) W1 ∧
      W1.rowIs w.heap.size 2 len (fun j => .int .i64 (z j)) ∧ Below w.heap.size w W1 ∧ W1.heap.size = w.heap.size + 1 := by
  have hg : (w.alloc (.cells (madeCells #[.int .i64 0] len) 2)).heap[w.heap.size]? = some (.cells (madeCells #[.int .i64 0] len) 2 (0, 0)) := heap_alloc_new w _
  have hr := run_copy_row (P := Try.prog) (w.alloc (.cells (madeCells #[.int .i64 0] len) 2)) 32 32 3 2 w.heap.size 0 len len x len cap (madeCells #[.int .i64 0] len) 2
    ((List.range len).map fun j => .int .i64 (z j)) Try.underlying32 size2 hg (by simp)
    (fun j v hj => by
      rw [List.getElem?_map] at hj
      by_cases hjl : j < len
      · rw [List.getElem?_range hjl] at hj
        simp only [Option.map_some, Option.some.injEq] at hj
        subst hj
        have := hc j hjl
        have hb : (x.add j).block < w.heap.size := block_lt_of_cell this
        rw [(((Below.refl w.heap.size w).alloc (Nat.le_refl _) _).cell hb)]
        exact this
      · rw [List.getElem?_eq_none (by simp; omega)] at hj; simp at hj)
    (by simp [size_madeCells]) (by intro v hv; simp at hv; obtain ⟨j, _, rfl⟩ := hv; rfl)
  simp only [List.length_map, List.length_range] at hr
  refine ⟨_, hr, ⟨_, setRow_heap _ _ _ _ _ _ hg, ?_, ?_⟩, ?_, ?_⟩
  · simp [size_madeCells]
  · intro i hi
    simp [size_madeCells, hi]
  · exact below_setRow ((Below.refl w.heap.size w).alloc (Nat.le_refl _) _) (Nat.le_refl _) _
  · simp [World.setRow]

theorem HeldIn.kept {w w' : World} {a : Option Addr} {len cap : Nat} {R : Nat → Int} {A : Nat → Bool} {J : Nat → Int} (h : HeldIn w a len cap R A J) (hb : Below w.heap.size w w') : HeldIn w' a len cap R A J := by
  rcases h with h | ⟨h1, h2⟩
  · exact .inl h
  · exact .inr ⟨h1, h2.kept hb⟩

/-- WHAT IS KNOWN OF THE ROLES THAT CAME IN -/
def RolesIn (w : World) (a : Option Addr) (m : Nat) (Q : Nat → Int) : Prop :=
  (a = none ∧ m ≤ 0) ∨ ∃ x, a = some x ∧ ∀ i, i < m → w.cell? (x.add i) = some (.int .i64 (Q i))

/-! ### plain laws -/
theorem any_iff {n : Nat} {R J : Nat → Int} {m : Nat} {Q : Nat → Int} {p : Int} : hldB n R J m Q p = true ↔ ∃ i, i < n ∧ cntB (J i) p = true ∧ hasB m Q (R i) = true := by
  simp [hldB, List.any_eq_true]
theorem hldB_split (k n : Nat) (R J : Nat → Int) (m : Nat) (Q : Nat → Int) (p : Int) (h : k ≤ n) :
    hldB n R J m Q p = (hldB k R J m Q p || hldB (n - k) (fun i => R (k + i)) (fun i => J (k + i)) m Q p) := by
  rw [Bool.eq_iff_iff, Bool.or_eq_true, any_iff, any_iff, any_iff]
  constructor
  · rintro ⟨i, hi, h1, h2⟩
    by_cases e : i < k
    · exact .inl ⟨i, e, h1, h2⟩
    · have e2 : k + (i - k) = i := by omega
      exact .inr ⟨i - k, by omega, by rw [e2]; exact h1, by rw [e2]; exact h2⟩
  · rintro (⟨i, hi, h1, h2⟩ | ⟨i, hi, h1, h2⟩)
    · exact ⟨i, by omega, h1, h2⟩
    · exact ⟨k + i, by omega, h1, h2⟩
theorem hldB_ins (n i : Nat) (R J : Nat → Int) (r j : Int) (m : Nat) (Q : Nat → Int) (p : Int) (h : i ≤ n) :
    hldB (n + 1) (ins R i r) (ins J i j) m Q p = (hldB n R J m Q p || (cntB j p && hasB m Q r)) := by
  rw [Bool.eq_iff_iff, Bool.or_eq_true, Bool.and_eq_true, any_iff, any_iff]
  constructor
  · rintro ⟨x, hx, h1, h2⟩
    by_cases e : x < i
    · rw [← ins_lt _ _ _ e] at h1 h2
      exact .inl ⟨x, by omega, h1, h2⟩
    · by_cases e2 : x = i
      · subst e2
        rw [← ins_at] at h1 h2
        exact .inr ⟨h1, h2⟩
      · obtain ⟨y, rfl⟩ : ∃ y, x = y + 1 := ⟨x - 1, by omega⟩
        rw [← ins_gt _ _ _ (by omega)] at h1 h2
        exact .inl ⟨y, by omega, h1, h2⟩
  · rintro (⟨x, hx, h1, h2⟩ | ⟨h1, h2⟩)
    · by_cases e : x < i
      · exact ⟨x, by omega, by rw [← ins_lt _ _ _ e]; exact h1, by rw [← ins_lt _ _ _ e]; exact h2⟩
      · exact ⟨x + 1, by omega, by rw [← ins_gt _ _ _ (by omega)]; exact h1, by rw [← ins_gt _ _ _ (by omega)]; exact h2⟩
    · exact ⟨i, by omega, by rw [← ins_at]; exact h1, by rw [← ins_at]; exact h2⟩
theorem hldB_zero (n : Nat) (R J : Nat → Int) (m : Nat) (Q : Nat → Int) (p : Int) (h : hldB n R J m Q 0 = true) : hldB n R J m Q p = true := by
  rw [any_iff] at h ⊢
  obtain ⟨i, hi, h1, h2⟩ := h
  refine ⟨i, hi, ?_, h2⟩
  unfold cntB at h1 ⊢
  simp only [decide_eq_true_eq] at h1 ⊢
  omega

end Go.Proofs.Qxb6618129a
