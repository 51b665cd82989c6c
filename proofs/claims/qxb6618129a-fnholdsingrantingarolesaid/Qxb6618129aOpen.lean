import Derived.Test.Qxb6618129aOwn
import Derived.Deep.Slices
import Derived.Deep.Strs
import Derived.Deep.MidRow
import Derived.Lib.SmallJoins
namespace Go.Proofs.Qxb6618129a
open Go.ChangeShapes Go.WideShapes Go.ChangeAt Go.RowKit

theorem own : ownKnob Try.prog.godebug = none := by kernel_rfl
theorem laidOut : laidOutB Try.prog = true := by kernel_rfl
theorem cells24 : Try.prog.cellsOf 24 = 3 := by kernel_rfl
theorem cells2 : Try.prog.cellsOf 2 = 1 := by kernel_rfl
theorem cells4 : Try.prog.cellsOf 4 = 1 := by kernel_rfl

theorem fields24 {H : Type} {enc : TypeId × Value → H} {W : World} {base : Nat} {spare : Nat → Bool} {held : Bool} {n : Nat} {cs : List Value} {x : DataW H × List MemPlace}
    (h : DataW.trod enc Try.prog W base spare held n 24 cs = some x) : ∃ r a j, cs = [.int .i64 r, .bool a, .int .i64 j] := by
  obtain ⟨y0, y1, y2, m, _, hl, h0, h1, h2⟩ := Go.Deep.trod_struct3 Try.underlying24 h
  rw [cells24] at hl
  match cs, hl with
  | [c0, c1, c2], _ =>
    simp only [cells2, cells4, List.drop_zero, List.drop_succ_cons, List.take_succ_cons, List.take_zero] at h0 h1 h2
    obtain ⟨r, e0, _, _⟩ := DataW.trod_int Try.underlying2 h0
    obtain ⟨a, e1, _⟩ := DataW.trod_bool Try.underlying4 h1
    obtain ⟨j, e2, _, _⟩ := DataW.trod_int Try.underlying2 h2
    simp only [List.cons.injEq, and_true] at e0 e1 e2
    exact ⟨r, a, j, by rw [e0, e1, e2]⟩

theorem open_held {H : Type} {enc : TypeId × Value → H} {W : World} {fuel : Nat} {a0 : Option Addr} {len cap : Nat} {x : DataW H × List MemPlace}
    (h : DataW.trod enc Try.prog W 0 (fun _ => true) true fuel 22 [.slice a0 len cap] = some x) : len ≤ maxLen ∧ ∃ R A J, HeldIn W a0 len cap R A J := by
  rcases Go.Deep.open_slice Try.underlying22 h with ⟨hcs, _⟩ | ⟨a, l, c, m, n, D, Pl, hcs, _, hl, hm, hmm, _, hx⟩
  · simp only [List.cons.injEq, Value.slice.injEq, and_true] at hcs
    exact ⟨by rw [hcs.2.1]; exact Nat.zero_le _, fun _ => 0, fun _ => false, fun _ => 0, .inl hcs⟩
  · simp only [List.cons.injEq, Value.slice.injEq, and_true] at hcs
    obtain ⟨rfl, rfl, rfl⟩ := hcs
    simp only [if_true] at hmm
    subst hmm
    refine ⟨Nat.le_trans hl hm, ?_⟩
    rw [cells24] at hx
    obtain ⟨F, hF⟩ := Go.Deep.choose_lt (α := Int × Bool × Int) (n := len)
      (p := fun i q => W.cell? (a.add (i * 3)) = some (.int .i64 q.1) ∧ W.cell? (a.add (i * 3 + 1)) = some (.bool q.2.1) ∧ W.cell? (a.add (i * 3 + 2)) = some (.int .i64 q.2.2)) (fun i hi => by
        obtain ⟨cs', h1, h2⟩ := hx i (by omega)
        obtain ⟨r, b, j, rfl⟩ := fields24 h2
        obtain ⟨_, _, hc⟩ := World.cells?_some h1
        refine ⟨(r, b, j), ?_, ?_, ?_⟩
        · have := hc 0 (by omega); rw [Go.Deep.add_add] at this; simpa using this
        · have := hc 1 (by omega); rw [Go.Deep.add_add] at this; simpa using this
        · have := hc 2 (by omega); rw [Go.Deep.add_add] at this; simpa using this)
    refine ⟨fun i => (F i).1, fun i => (F i).2.1, fun i => (F i).2.2, .inr ⟨⟨a, rfl⟩, ?_⟩⟩
    by_cases h0 : len = 0
    · exact .inl h0
    · refine .inr ?_
      obtain ⟨b, off, spot⟩ := a
      have hs : spot = none := by simpa [Addr.add] using World.cell?_spot (hF 0 (by omega)).1
      subst hs
      refine ⟨b, off, rfl, fun i hi => ?_⟩
      have h3 := hF i hi
      simp only [Addr.add_mid, ← Nat.add_assoc] at h3
      exact h3

theorem open_roles {H : Type} {enc : TypeId × Value → H} {W : World} {fuel : Nat} {a1 : Option Addr} {m cm : Nat} {x : DataW H × List MemPlace}
    (h : DataW.trod enc Try.prog W 0 (fun _ => true) true fuel 32 [.slice a1 m cm] = some x) : m ≤ maxLen ∧ ∃ Q, RolesIn W a1 m Q := by
  rcases open_ints Try.underlying32 Try.underlying2 cells2 h with ⟨hcs, _⟩ | ⟨x, l, c, zs, hcs, _, hl, hm, hz, _, hcell, _⟩
  · simp only [List.cons.injEq, Value.slice.injEq, and_true] at hcs
    exact ⟨by rw [hcs.2.1]; exact Nat.zero_le _, fun _ => 0, .inl ⟨hcs.1, by rw [hcs.2.1]; exact Nat.zero_le _⟩⟩
  · simp only [List.cons.injEq, Value.slice.injEq, and_true] at hcs
    obtain ⟨rfl, rfl, rfl⟩ := hcs
    have hzl : zs.length = cm := by simpa using hz
    exact ⟨Nat.le_trans hl hm, fun i => zs.getD i 0, .inr ⟨x, rfl, fun i hi => hcell i (by omega)⟩⟩
end Go.Proofs.Qxb6618129a
