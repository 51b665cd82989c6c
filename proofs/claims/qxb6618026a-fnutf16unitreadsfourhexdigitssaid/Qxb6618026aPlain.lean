/- Plain mathematics for seat b6618026a: no Go in sight but the kit's word 'bits'. -/
import Derived.Laws.BitsLemmas
import Derived.Laws.BitsAllLaws
namespace Go.Proofs.Qxb6618026a

/-- a hexadecimal digit of either case -/
def hexB (c : Int) : Bool := decide ((48 ≤ c ∧ c ≤ 57) ∨ (97 ≤ c ∧ c ≤ 102) ∨ (65 ≤ c ∧ c ≤ 70))

/-- 'c | 0x20' -/
def lowI (c : Int) : Int := if c / 32 % 2 = 1 then c else c + 32

set_option maxRecDepth 100000 in
theorem nat_or32 : ∀ n : Nat, n < 256 → (n ||| 32) = if n / 32 % 2 = 1 then n else n + 32 := by decide +kernel

theorem or32 (c : Int) (h0 : 0 ≤ c) (h1 : c ≤ 255) : bits .or .u8 c 32 = lowI c := by
  rw [u8_or c 32 h0 (by omega) (by omega) (by omega)]
  obtain ⟨n, rfl⟩ := Int.eq_ofNat_of_zero_le h0
  have hn : n < 256 := by omega
  have := nat_or32 n hn
  have e : ((n : Int).toNat ||| (32 : Int).toNat) = (n ||| 32) := rfl
  rw [e, this]
  unfold lowI
  by_cases h : n / 32 % 2 = 1
  · rw [if_pos h, if_pos (by omega)]
  · rw [if_neg h, if_neg (by omega)]; omega

theorem i32_or4 (x y : Int) (hx₀ : 0 ≤ x) (hx : x % 16 = 0) (hx₁ : x < 2147483648) (h₀ : 0 ≤ y) (h₁ : y < 16) : bits .or .i32 x y = x + y :=
  bits_join .i32 31 (by decide) wraps_i32 4 x y hx₀ hx hx₁ h₀ h₁ (by omega)

/-- the value of a hexadecimal digit -/
def dv (c : Int) : Int := if c ≤ 57 then c - 48 else if 97 ≤ c then c - 87 else c - 55

theorem dv_range (c : Int) (h : hexB c = true) : 0 ≤ dv c ∧ dv c ≤ 15 := by
  unfold hexB at h
  simp only [decide_eq_true_eq] at h
  unfold dv
  split
  · omega
  · split <;> omega

/-- the unit behind the first k digits of 'z', which stand from place 2 on -/
def uv (z : Nat → Int) : Nat → Int
  | 0 => 0
  | k + 1 => uv z k * 16 + dv (z (2 + k))

/-- are the first k digits hexadecimal? -/
def hexes (z : Nat → Int) (k : Nat) : Bool := (List.range k).all fun j => hexB (z (2 + j))

theorem hexes_succ (z : Nat → Int) (k : Nat) : hexes z (k + 1) = (hexes z k && hexB (z (2 + k))) := by
  simp [hexes, List.range_succ]

theorem uv_range (z : Nat → Int) : ∀ k, hexes z k = true → 0 ≤ uv z k ∧ uv z k < 16 ^ k
  | 0, _ => by simp [uv]
  | k + 1, h => by
    rw [hexes_succ, Bool.and_eq_true] at h
    have h1 := uv_range z k h.1
    have h2 := dv_range _ h.2
    have e : (16 : Int) ^ (k + 1) = 16 ^ k * 16 := Int.pow_succ 16 k
    rw [e]
    simp only [uv]
    omega

theorem hexes_mono (z : Nat → Int) (k m : Nat) (h : k ≤ m) (hm : hexes z k = false) : hexes z m = false := by
  induction m with
  | zero => have : k = 0 := by omega
            subst this; exact hm
  | succ m ih =>
    by_cases e : k = m + 1
    · subst e; exact hm
    · rw [hexes_succ, ih (by omega)]; rfl

theorem hexes_pre (z : Nat → Int) (k m : Nat) (h : k ≤ m) (hm : hexes z m = true) : hexes z k = true := by
  cases e : hexes z k with
  | true => rfl
  | false => rw [hexes_mono z k m h e] at hm; cases hm

/-- does 'z', of length 'n', open with an escape? -/
def escB (n : Nat) (z : Nat → Int) : Bool := decide (6 ≤ n ∧ z 0 = 92 ∧ z 1 = 117) && hexes z 4

/-- the unit that is answered -/
def unitOf (n : Nat) (z : Nat → Int) : Int := if escB n z = true then uv z 4 else 0

theorem escB_short (n : Nat) (z : Nat → Int) (h : n < 6) : escB n z = false := by
  unfold escB; rw [decide_eq_false (by omega)]; rfl
theorem escB_head (n : Nat) (z : Nat → Int) (h : z 0 ≠ 92 ∨ z 1 ≠ 117) : escB n z = false := by
  unfold escB; rw [decide_eq_false (by omega)]; rfl
theorem escB_hex (n : Nat) (z : Nat → Int) (h : hexes z 4 = false) : escB n z = false := by
  unfold escB; rw [h, Bool.and_false]
theorem escB_yes (n : Nat) (z : Nat → Int) (h : 6 ≤ n) (h0 : z 0 = 92) (h1 : z 1 = 117) (h4 : hexes z 4 = true) : escB n z = true := by
  unfold escB; rw [decide_eq_true (by omega), h4]; rfl
theorem unitOf_no (n : Nat) (z : Nat → Int) (h : escB n z = false) : unitOf n z = 0 := by
  unfold unitOf; rw [h]; rfl
theorem unitOf_yes (n : Nat) (z : Nat → Int) (h : escB n z = true) : unitOf n z = uv z 4 := by
  unfold unitOf; rw [h]; rfl

/-- the first six cells decide -/
theorem hexes_congr (z y : Nat → Int) (k : Nat) (h : ∀ i, i < 2 + k → z i = y i) : hexes z k = hexes y k := by
  induction k with
  | zero => rfl
  | succ k ih => rw [hexes_succ, hexes_succ, ih (fun i hi => h i (by omega)), h (2 + k) (by omega)]
theorem uv_congr (z y : Nat → Int) (k : Nat) (h : ∀ i, i < 2 + k → z i = y i) : uv z k = uv y k := by
  induction k with
  | zero => rfl
  | succ k ih => simp only [uv]; rw [ih (fun i hi => h i (by omega)), h (2 + k) (by omega)]
theorem escB_congr (n m : Nat) (z y : Nat → Int) (hn : 6 ≤ n) (hm : 6 ≤ m) (h : ∀ i, i < 6 → z i = y i) : escB n z = escB m y := by
  unfold escB
  rw [hexes_congr z y 4 (fun i hi => h i (by omega)), h 0 (by omega), h 1 (by omega)]
  congr 1
  simp [hn, hm]
theorem unitOf_congr (n m : Nat) (z y : Nat → Int) (hn : 6 ≤ n) (hm : 6 ≤ m) (h : ∀ i, i < 6 → z i = y i) : unitOf n z = unitOf m y := by
  unfold unitOf
  rw [escB_congr n m z y hn hm h, uv_congr z y 4 (fun i hi => h i (by omega))]
end Go.Proofs.Qxb6618026a
