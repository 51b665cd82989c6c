import Derived.Test.Qxb6618327aBits
import Derived.ShutString
import Derived.ChangeOld
namespace Go.Proofs.Qxb6618327a
open Go.ChangeShapes Go.WideShapes Go.ChangeAt Go.RowKit

theorem own : ownKnob Try.prog.godebug = none := by kernel_rfl
theorem laidOut : laidOutB Try.prog = true := by kernel_rfl
theorem cells22 : Try.prog.cellsOf 22 = 20 := by kernel_rfl
theorem cells5 : Try.prog.cellsOf 5 = 1 := by kernel_rfl

theorem okWide_key {W : World} {r : Reach} {base : Nat} {v : Value} (h : Value.okWide Try.prog W r base 22 v) : ∃ cs, v = .agg cs ∧ cs.size = 20 := by
  have ht := Try.underlying22
  simp only [Value.okWide, ht] at h
  cases v <;> simp_all [cells22]

theorem open_key {H : Type} {enc : TypeId × Value → H} {W : World} {r : Reach} {base0 base : Nat} {spare : Nat → Bool} {held : Bool} {v : Value} {d : DataW H} {p : List MemPlace}
    (hv : Value.okWide Try.prog W r base0 22 v) (h : DataW.Trod enc Try.prog W base spare held 22 v d p) : ∃ cs z, v = .agg cs ∧ Key cs z := by
  obtain ⟨cs, rfl, hs⟩ := okWide_key hv
  obtain ⟨fuel, hf⟩ := h
  obtain ⟨xs, m, _, _, hl, hx, hel⟩ := DataW.trod_array Try.underlying22 hf
  have hg : ∀ i, i < 20 → ∃ n : Int, cs[i]? = some (.int .u8 n) ∧ 0 ≤ n ∧ n ≤ 255 := by
    intro i hi
    have he := hel i hi
    rw [List.getElem?_eq_getElem (by omega)] at he
    obtain ⟨n, e1, _, e3⟩ := DataW.trod_int Try.underlying5 he
    rw [cells5, Nat.mul_one] at e1
    have hc : cs.toList[i]? = some (.int .u8 n) := by
      have h1 : (Value.agg cs).cells.toList = cs.toList := by simp [Value.cells]
      rw [h1] at e1
      have h2 : (cs.toList.drop i).take 1 = [.int .u8 n] := e1
      have h3 : ((cs.toList.drop i).take 1)[0]? = some (.int .u8 n) := by rw [h2]; rfl
      simpa using h3
    refine ⟨n, by simpa using hc, ?_⟩
    have := bounds_u8 e3
    omega
  obtain ⟨z, hz⟩ : ∃ z : Nat → Int, ∀ i, i < 20 → cs[i]? = some (.int .u8 (z i)) ∧ 0 ≤ z i ∧ z i ≤ 255 := by
    refine ⟨fun i => if h : i < 20 then Classical.choose (hg i h) else 0, fun i hi => ?_⟩
    simp only [dif_pos hi]
    exact Classical.choose_spec (hg i hi)
  exact ⟨cs, z, rfl, hs, fun i hi => (hz i hi).1, fun i hi => (hz i hi).2⟩
end Go.Proofs.Qxb6618327a
