/- Plain mathematics for seat b6618327a: no Go in sight but the kit's words 'bits' and 'bitLen'. -/
import Derived.Laws.BitsLemmas
import Derived.Laws.BitsAllLaws
import Derived.Lib.BitFns
namespace Go.Proofs.Qxb6618327a

/-- bit i of a key (0: the first byte's highest) -/
def bitI (z : Nat → Int) (i : Nat) : Int := z (i / 8) / 2 ^ (7 - i % 8) % 2

theorem lead_bits : ∀ x : Nat, x < 256 → x ≠ 0 → Lib.bitLen x ≤ 8 ∧ 1 ≤ Lib.bitLen x ∧ (∀ i : Nat, i < 8 → i < 8 - Lib.bitLen x → x.testBit (7 - i) = false) ∧ x.testBit (7 - (8 - Lib.bitLen x)) = true := by
  decide +kernel

theorem bit_eq_iff (p q k : Nat) : p / 2 ^ k % 2 = q / 2 ^ k % 2 ↔ (p ^^^ q).testBit k = false := by
  rw [Nat.testBit_xor, Nat.testBit_eq_decide_div_mod_eq, Nat.testBit_eq_decide_div_mod_eq]
  have hp : p / 2 ^ k % 2 = 0 ∨ p / 2 ^ k % 2 = 1 := by omega
  have hq : q / 2 ^ k % 2 = 0 ∨ q / 2 ^ k % 2 = 1 := by omega
  rcases hp with hp | hp <;> rcases hq with hq | hq <;> simp [hp, hq]

/-- r is the length of the longest shared head of bits -/
def Longest (a b : Nat → Int) (r : Nat) : Prop := r ≤ 160 ∧ (∀ i, i < r → bitI a i = bitI b i) ∧ (r < 160 → bitI a r ≠ bitI b r)

theorem bitI_nat (a : Nat → Int) (i p : Nat) (h : a (i / 8) = (p : Int)) : bitI a i = ((p / 2 ^ (7 - i % 8) % 2 : Nat) : Int) := by
  unfold bitI
  rw [h]
  simp

theorem xor_zero_iff (p q : Int) (hp : 0 ≤ p ∧ p ≤ 255) (hq : 0 ≤ q ∧ q ≤ 255) : bits .xor .u8 p q = 0 ↔ p = q := by
  rw [u8_xor p q hp.1 (by omega) hq.1 (by omega)]
  constructor
  · intro h
    have h2 : p.toNat ^^^ q.toNat = 0 := by omega
    have h3 : (p.toNat ^^^ q.toNat) ^^^ q.toNat = p.toNat := by rw [Nat.xor_assoc, Nat.xor_self, Nat.xor_zero]
    rw [h2, Nat.zero_xor] at h3
    omega
  · rintro rfl
    simp

theorem xor_range (p q : Int) (hp : 0 ≤ p ∧ p ≤ 255) (hq : 0 ≤ q ∧ q ≤ 255) : 0 ≤ bits .xor .u8 p q ∧ bits .xor .u8 p q ≤ 255 := by
  rw [u8_xor p q hp.1 (by omega) hq.1 (by omega)]
  have : p.toNat ^^^ q.toNat < 2 ^ 8 := Nat.xor_lt_two_pow (by omega) (by omega)
  omega

theorem longest_at (a b : Nat → Int) (k : Nat) (hk : k < 20) (ha : ∀ i, i < 20 → 0 ≤ a i ∧ a i ≤ 255) (hb : ∀ i, i < 20 → 0 ≤ b i ∧ b i ≤ 255) (heq : ∀ i, i < k → a i = b i) (hx : bits .xor .u8 (a k) (b k) ≠ 0) :
    Lib.bitLen (bits .xor .u8 (a k) (b k)).toNat ≤ 8 ∧ Longest a b (k * 8 + (8 - Lib.bitLen (bits .xor .u8 (a k) (b k)).toNat)) := by
  have hak := ha k hk
  have hbk := hb k hk
  obtain ⟨p, hp⟩ := Int.eq_ofNat_of_zero_le hak.1
  obtain ⟨q, hq⟩ := Int.eq_ofNat_of_zero_le hbk.1
  have e : bits .xor .u8 (a k) (b k) = ((p ^^^ q : Nat) : Int) := by
    rw [u8_xor _ _ hak.1 (by omega) hbk.1 (by omega), hp, hq]
    rfl
  rw [e] at hx ⊢
  have hlt : p ^^^ q < 2 ^ 8 := Nat.xor_lt_two_pow (by omega) (by omega)
  have hx' : p ^^^ q ≠ 0 := by omega
  obtain ⟨h8, h1, hlow, htop⟩ := lead_bits (p ^^^ q) hlt hx'
  rw [Int.toNat_natCast]
  refine ⟨h8, by omega, fun i hi => ?_, fun _ => ?_⟩
  · by_cases hi8 : i < k * 8
    · unfold bitI
      rw [heq (i / 8) (by omega)]
    · have hd : i / 8 = k := by omega
      rw [bitI_nat a i p (by rw [hd]; exact hp), bitI_nat b i q (by rw [hd]; exact hq)]
      have := (bit_eq_iff p q (7 - i % 8)).2 (hlow (i % 8) (by omega) (by omega))
      rw [this]
  · have hd : (k * 8 + (8 - Lib.bitLen (p ^^^ q))) / 8 = k := by omega
    have hm : (k * 8 + (8 - Lib.bitLen (p ^^^ q))) % 8 = 8 - Lib.bitLen (p ^^^ q) := by omega
    rw [bitI_nat a _ p (by rw [hd]; exact hp), bitI_nat b _ q (by rw [hd]; exact hq), hm]
    intro h
    have h2 : p / 2 ^ (7 - (8 - Lib.bitLen (p ^^^ q))) % 2 = q / 2 ^ (7 - (8 - Lib.bitLen (p ^^^ q))) % 2 := by omega
    rw [bit_eq_iff, htop] at h2
    cases h2

theorem longest_all (a b : Nat → Int) (heq : ∀ i, i < 20 → a i = b i) : Longest a b 160 :=
  ⟨Nat.le_refl _, fun i hi => by unfold bitI; rw [heq (i / 8) (by omega)], fun h => by omega⟩

/-! ### the ultrametric -/
theorem Longest.unique {a b : Nat → Int} {r s : Nat} (h : Longest a b r) (k : Longest a b s) : r = s := by
  obtain ⟨h1, h2, h3⟩ := h
  obtain ⟨k1, k2, k3⟩ := k
  rcases Nat.lt_trichotomy r s with e | e | e
  · exact absurd (k2 r e) (h3 (by omega))
  · exact e
  · exact absurd (h2 s e) (k3 (by omega))
theorem Longest.symm {a b : Nat → Int} {r : Nat} (h : Longest a b r) : Longest b a r := ⟨h.1, fun i hi => (h.2.1 i hi).symm, fun hr e => h.2.2 hr e.symm⟩
theorem Longest.self {a : Nat → Int} {r : Nat} (h : Longest a a r) : r = 160 := h.unique (longest_all a a fun _ _ => rfl)
theorem Longest.ultra {a b c : Nat → Int} {x y z : Nat} (h1 : Longest a b x) (h2 : Longest b c y) (h3 : Longest a c z) : (x ≤ z ∨ y ≤ z) ∧ (x < y → z = x) ∧ (y < x → z = y) := by
  have h : x ≤ z ∨ y ≤ z := by
    by_cases e : x ≤ z ∨ y ≤ z
    · exact e
    · exact absurd ((h1.2.1 z (by omega)).trans (h2.2.1 z (by omega))) (h3.2.2 (by have := h1.1; omega))
  refine ⟨h, fun hxy => ?_, fun hyx => ?_⟩
  · rcases Nat.lt_trichotomy z x with e | e | e
    · omega
    · exact e
    · exact absurd ((h3.2.1 x e).trans (h2.2.1 x hxy).symm) (h1.2.2 (by have := h3.1; omega))
  · rcases Nat.lt_trichotomy z y with e | e | e
    · omega
    · exact e
    · exact absurd ((h1.2.1 y hyx).symm.trans (h3.2.1 y e)) (h2.2.2 (by have := h3.1; omega))
end Go.Proofs.Qxb6618327a
