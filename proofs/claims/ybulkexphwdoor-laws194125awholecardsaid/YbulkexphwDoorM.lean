/- LawS194125A, the plain half: the digits' value, the leading zeros. No Go in sight. -/
import Derived.KernelRfl
namespace Go.Proofs.YbulkexphwDoor

/-- Horner's rule over the first j digits. -/
def val (Z : Nat → Int) : Nat → Int
  | 0 => 0
  | j + 1 => val Z j * 10 + (Z j - 48)
/-- The zeros met while the value was 0. -/
def zer (Z : Nat → Int) : Nat → Int
  | 0 => 0
  | j + 1 => zer Z j + if val Z j = 0 ∧ Z j = 48 then 1 else 0

/-- J: how many digits open the window, 18 at the most. -/
structure Dig (Z : Nat → Int) (n J : Nat) : Prop where
  le : J ≤ n
  le18 : J ≤ 18
  dig : ∀ i, i < J → 48 ≤ Z i ∧ Z i ≤ 57
  stop : J < n → J < 18 → ¬ (48 ≤ Z J ∧ Z J ≤ 57)

def digits (Z : Nat → Int) : Nat → Nat → Nat
  | 0, i => i
  | f + 1, i => if 48 ≤ Z i ∧ Z i ≤ 57 then digits Z f (i + 1) else i
theorem digits_spec (Z : Nat → Int) : ∀ (f i : Nat), i ≤ digits Z f i ∧ digits Z f i ≤ i + f ∧ (∀ x, i ≤ x → x < digits Z f i → 48 ≤ Z x ∧ Z x ≤ 57) ∧ (digits Z f i < i + f → ¬ (48 ≤ Z (digits Z f i) ∧ Z (digits Z f i) ≤ 57))
  | 0, i => ⟨Nat.le_refl _, Nat.le_refl _, fun x h1 h2 => by simp [digits] at h2; omega, fun h => by simp [digits] at h⟩
  | f + 1, i => by
    by_cases h : 48 ≤ Z i ∧ Z i ≤ 57
    · have e : digits Z (f + 1) i = digits Z f (i + 1) := by rw [digits, if_pos h]
      rw [e]
      obtain ⟨h1, h2, h3, h4⟩ := digits_spec Z f (i + 1)
      refine ⟨by omega, by omega, fun x hx1 hx2 => ?_, fun hlt => h4 (by omega)⟩
      rcases Nat.lt_or_ge i x with h' | h'
      · exact h3 x h' hx2
      · obtain rfl : x = i := by omega
        exact h
    · have e : digits Z (f + 1) i = i := by rw [digits, if_neg h]
      rw [e]
      exact ⟨Nat.le_refl _, by omega, fun x h1 h2 => by omega, fun _ => h⟩
theorem dig_some (Z : Nat → Int) (n : Nat) : Dig Z n (digits Z (min n 18) 0) := by
  obtain ⟨_, h2, h3, h4⟩ := digits_spec Z (min n 18) 0
  exact ⟨by omega, by omega, fun i hi => h3 i (Nat.zero_le _) hi, fun h1 h5 => h4 (by omega)⟩

theorem val_bd {Z : Nat → Int} {n J : Nat} (h : Dig Z n J) : ∀ j, j ≤ J → 0 ≤ val Z j ∧ val Z j < 10 ^ j
  | 0, _ => ⟨by simp [val], by simp [val]⟩
  | j + 1, hj => by
    obtain ⟨h1, h2⟩ := val_bd h j (by omega)
    obtain ⟨h3, h4⟩ := h.dig j (by omega)
    rw [val, Int.pow_succ]
    constructor <;> omega
theorem pow_le {j k : Nat} (h : j ≤ k) : (10 : Int) ^ j ≤ 10 ^ k := by
  have : (10 : Nat) ^ j ≤ 10 ^ k := Nat.pow_le_pow_right (by decide) h
  exact_mod_cast this
theorem val_lt {Z : Nat → Int} {n J : Nat} (h : Dig Z n J) (j : Nat) (hj : j < J) : 0 ≤ val Z j ∧ val Z j < 100000000000000000 := by
  obtain ⟨h1, h2⟩ := val_bd h j (by omega)
  have h3 : (10 : Int) ^ j ≤ 10 ^ 17 := pow_le (by have := h.le18; omega)
  have e : (10 : Int) ^ 17 = 100000000000000000 := by decide
  omega
theorem zer_bd (Z : Nat → Int) : ∀ j : Nat, 0 ≤ zer Z j ∧ zer Z j ≤ j
  | 0 => ⟨by simp [zer], by simp [zer]⟩
  | j + 1 => by
    obtain ⟨h1, h2⟩ := zer_bd Z j
    rw [zer]
    split <;> omega

/-- What the law adds up, r digits from the right. -/
def wnt (Z : Nat → Int) (J : Nat) : Nat → Int
  | 0 => 0
  | r + 1 => wnt Z J r + (Z (J - 1 - r) - 48) * 10 ^ r
theorem wnt_val {Z : Nat → Int} {J : Nat} : ∀ r, r ≤ J → val Z J = val Z (J - r) * 10 ^ r + wnt Z J r
  | 0, _ => by simp [wnt]
  | r + 1, hr => by
    have ih := wnt_val (Z := Z) r (by omega : r ≤ J)
    obtain ⟨k, hk⟩ : ∃ k, J - r = k + 1 := ⟨J - r - 1, by omega⟩
    have e1 : J - (r + 1) = k := by omega
    have e2 : J - 1 - r = k := by omega
    rw [ih, hk, val, wnt, e1, e2, Int.pow_succ, Int.add_mul, Int.mul_assoc, Int.mul_comm 10 (10 ^ r), Int.mul_comm (10 ^ r) 10]
    omega
theorem wnt_bd {Z : Nat → Int} {n J : Nat} (h : Dig Z n J) : ∀ r, r ≤ J → 0 ≤ wnt Z J r ∧ wnt Z J r < 10 ^ r
  | 0, _ => ⟨by simp [wnt], by simp [wnt]⟩
  | r + 1, hr => by
    obtain ⟨h1, h2⟩ := wnt_bd h r (by omega)
    obtain ⟨h3, h4⟩ := h.dig (J - 1 - r) (by omega)
    rw [wnt, Int.pow_succ]
    have hp : (0 : Int) < 10 ^ r := Int.pow_pos (by decide)
    generalize (10 : Int) ^ r = p at *
    generalize Z (J - 1 - r) = z at *
    have a : 0 ≤ (z - 48) * p := Int.mul_nonneg (by omega) (by omega)
    have b : (z - 48) * p ≤ 9 * p := Int.mul_le_mul_of_nonneg_right (by omega) (by omega)
    omega
theorem wnt_all {Z : Nat → Int} {J : Nat} : wnt Z J J = val Z J := by
  have := wnt_val (Z := Z) (J := J) J (Nat.le_refl _)
  simp [val] at this
  exact this.symm

/-- L: the leading zeros among the J digits. -/
structure Lead (Z : Nat → Int) (J L : Nat) : Prop where
  le : L ≤ J
  zero : ∀ i, i < L → Z i = 48
  stop : L < J → Z L ≠ 48
theorem lead_val {Z : Nat → Int} {n J L : Nat} (h : Dig Z n J) (hl : Lead Z J L) : ∀ j, j ≤ J → (val Z j = 0 ↔ j ≤ L) ∧ zer Z j = if j ≤ L then (j : Int) else L
  | 0, _ => by simp [val, zer]
  | j + 1, hj => by
    obtain ⟨h1, h2⟩ := lead_val h hl j (by omega)
    obtain ⟨h3, h4⟩ := h.dig j (by omega)
    obtain ⟨h5, _⟩ := val_bd h j (by omega)
    rw [val, zer, h2]
    rcases Nat.lt_trichotomy j L with hlt | heq | hgt
    · have hz := hl.zero j hlt
      have hv := h1.2 (by omega)
      rw [hv, hz, if_pos (by omega), if_pos ⟨rfl, rfl⟩, if_pos (by omega)]
      constructor
      · constructor <;> intro <;> omega
      · omega
    · subst heq
      have hne := hl.stop (by omega)
      have hv := h1.2 (Nat.le_refl _)
      rw [hv, if_pos (Nat.le_refl _), if_neg (by omega), if_neg (by omega)]
      constructor
      · constructor <;> intro <;> omega
      · omega
    · have hv : val Z j ≠ 0 := fun e => by have := h1.1 e; omega
      rw [if_neg (by omega), if_neg (fun e => hv e.1), if_neg (by omega)]
      constructor
      · constructor <;> intro <;> omega
      · omega
/-- The zeros that shortInt notes are the law's. -/
theorem zeros_eq {Z : Nat → Int} {n J L : Nat} (h : Dig Z n J) (hl : Lead Z J L) : (if val Z J = 0 then zer Z J - 1 else zer Z J) = if L = J then (J : Int) - 1 else L := by
  obtain ⟨h1, h2⟩ := lead_val h hl J (Nat.le_refl _)
  have := hl.le
  by_cases e : L = J
  · rw [if_pos e, if_pos (h1.2 (by omega)), h2, if_pos (by omega)]
  · rw [if_neg e, if_neg (fun e' => by have := h1.1 e'; omega), h2, if_neg (by omega)]

end Go.Proofs.YbulkexphwDoor
