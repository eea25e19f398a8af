/- THE PLAIN HALF: the order of float64 values by their bits, as cmp.Less has it; what a sorted row says of the median. No Go in sight. -/
import Derived.Sort.AssemblyPlain
import GoSem.Core.Float
namespace Go.Proofs.Ybulkexpfs
open Go.Sort

/-- 'x != x'. -/
def fnan (x : Nat) : Bool := FloatKind.f64.format.order x x != some .eq
/-- 'x < y'. -/
def flt (x y : Nat) : Bool := FloatKind.f64.format.order x y == some .lt
/-- 'x <= y'. -/
def fle (x y : Nat) : Bool := FloatKind.f64.format.order x y == some .lt || FloatKind.f64.format.order x y == some .eq
/-- 'x == y'. -/
def feq (x y : Nat) : Bool := FloatKind.f64.format.order x y == some .eq
/-- cmp.Less at float64. -/
def ltF (x y : Nat) : Bool := (fnan x && !fnan y) || flt x y

/-! ### The order by a key -/
def keyOf (least : Int) : Ieee.Datum → Option (Int × Int)
  | .number s m i => some (0, Ieee.signed s m (i - least).toNat)
  | .infinity s => some (if s then -1 else 1, 0)
  | .nan _ _ => none

def cmpKey (a b : Int × Int) : Ordering :=
  if a.1 < b.1 ∨ (a.1 = b.1 ∧ a.2 < b.2) then .lt else if a.1 = b.1 ∧ a.2 = b.2 then .eq else .gt

theorem signed_up (s : Bool) (m a k : Nat) : Ieee.signed s m (a + k) = Ieee.signed s m a * ((2 ^ k : Nat) : Int) := by
  unfold Ieee.signed
  rw [Nat.shiftLeft_eq, Nat.shiftLeft_eq, Nat.pow_add, ← Nat.mul_assoc]
  cases s <;> simp [Int.neg_mul]

theorem compare_scale (x y : Int) (k : Nat) : compare (x * ((2 ^ k : Nat) : Int)) (y * ((2 ^ k : Nat) : Int)) = compare x y := by
  have hp : (0 : Int) < ((2 ^ k : Nat) : Int) := by exact_mod_cast Nat.two_pow_pos k
  generalize ((2 ^ k : Nat) : Int) = c at hp
  rcases Int.lt_trichotomy x y with h | h | h
  · rw [Int.compare_eq_lt.2 h, Int.compare_eq_lt.2 (Int.mul_lt_mul_of_pos_right h hp)]
  · subst h; simp
  · rw [Int.compare_eq_gt.2 h, Int.compare_eq_gt.2 (Int.mul_lt_mul_of_pos_right h hp)]

theorem cmpKey_num (x y : Int) : cmpKey (0, x) (0, y) = compare x y := by
  unfold cmpKey
  rcases Int.lt_trichotomy x y with h | h | h
  · rw [Int.compare_eq_lt.2 h]; simp [h]
  · subst h; simp
  · rw [Int.compare_eq_gt.2 h, if_neg (by simp; omega), if_neg (by simp; omega)]

/-- A number's place is no lower than 'least'. -/
def Fits (least : Int) : Ieee.Datum → Prop
  | .number _ _ i => least ≤ i
  | _ => True

theorem order_key (least : Int) (d e : Ieee.Datum) (hd : Fits least d) (he : Fits least e) :
    d.order e = match keyOf least d, keyOf least e with
      | some a, some b => some (cmpKey a b)
      | _, _ => none := by
  cases d with
  | nan s f => cases e <;> rfl
  | infinity s =>
    cases e with
    | nan t f => rfl
    | infinity t => cases s <;> cases t <;> rfl
    | number t n j => cases s <;> rfl
  | number s m i =>
    cases e with
    | nan t f => rfl
    | infinity t => cases t <;> rfl
    | number t n j =>
      simp only [Ieee.Datum.order, keyOf, cmpKey_num, Option.some.injEq]
      simp only [Fits] at hd he
      have e1 : (i - least).toNat = (i - min i j).toNat + (min i j - least).toNat := by omega
      have e2 : (j - least).toNat = (j - min i j).toNat + (min i j - least).toNat := by omega
      rw [e1, e2, signed_up, signed_up, compare_scale]

theorem read_fits (f : Ieee.Format) (x : Nat) : Fits f.leastPlace (f.read x) := by
  unfold Ieee.Format.read
  simp only
  split
  · exact Int.le_refl _
  · split
    · simp only [Fits]; omega
    · split <;> trivial

/-- A float64's key. -/
def fkey (x : Nat) : Option (Int × Int) := keyOf FloatKind.f64.format.leastPlace (FloatKind.f64.format.read x)

theorem ford_key (x y : Nat) : FloatKind.f64.format.order x y = match fkey x, fkey y with
      | some a, some b => some (cmpKey a b)
      | _, _ => none :=
  order_key _ _ _ (read_fits _ x) (read_fits _ y)

theorem fnan_key (x : Nat) : fnan x = (fkey x).isNone := by
  unfold fnan
  rw [ford_key]
  cases h : fkey x with
  | none => rfl
  | some a => simp [cmpKey]

theorem cmpKey_lt (a b : Int × Int) : (cmpKey a b == .lt) = decide (a.1 < b.1 ∨ (a.1 = b.1 ∧ a.2 < b.2)) := by
  unfold cmpKey
  by_cases h : a.1 < b.1 ∨ (a.1 = b.1 ∧ a.2 < b.2)
  · simp [h]
  · rw [if_neg h]
    by_cases h2 : a.1 = b.1 ∧ a.2 = b.2
    · simp [h2]
    · rw [if_neg h2]; simp [h]

theorem cmpKey_eq (a b : Int × Int) : (cmpKey a b == .eq) = decide (a.1 = b.1 ∧ a.2 = b.2) := by
  unfold cmpKey
  by_cases h : a.1 < b.1 ∨ (a.1 = b.1 ∧ a.2 < b.2)
  · rw [if_pos h]
    have : ¬ (a.1 = b.1 ∧ a.2 = b.2) := by omega
    simp [this]
  · rw [if_neg h]
    by_cases h2 : a.1 = b.1 ∧ a.2 = b.2
    · simp [h2]
    · rw [if_neg h2]; simp [h2]

theorem some_beq (a b : Ordering) : (some a == some b) = (a == b) := rfl

theorem flt_key (x y : Nat) : flt x y = match fkey x, fkey y with
      | some a, some b => decide (a.1 < b.1 ∨ (a.1 = b.1 ∧ a.2 < b.2))
      | _, _ => false := by
  unfold flt
  rw [ford_key]
  cases fkey x <;> cases fkey y <;> first | rfl | (simp only [some_beq, cmpKey_lt])

theorem feq_key (x y : Nat) : feq x y = match fkey x, fkey y with
      | some a, some b => decide (a.1 = b.1 ∧ a.2 = b.2)
      | _, _ => false := by
  unfold feq
  rw [ford_key]
  cases fkey x <;> cases fkey y <;> first | rfl | (simp only [some_beq, cmpKey_eq])

theorem fle_eq (x y : Nat) : fle x y = (flt x y || feq x y) := rfl

theorem swo_ltF : SWO ltF where
  irrefl x := by
    unfold ltF
    rw [fnan_key, flt_key]
    cases h : fkey x <;> simp
  trans x y z := by
    unfold ltF
    simp only [fnan_key, flt_key]
    cases fkey x <;> cases fkey y <;> cases fkey z <;> simp <;> omega
  ntrans x y z := by
    unfold ltF
    simp only [fnan_key, flt_key]
    cases fkey x <;> cases fkey y <;> cases fkey z <;> simp <;> omega

/-! ### What a sorted row says of its k-th element -/
/-- 'p' holds of a beginning of a sorted row: so it holds at k just where k lies below how many there are. -/
theorem count_iff {p : Nat → Bool} (hp : ∀ x y, p x = true → ltF x y = false → p y = true) : ∀ (ys : List Nat), ys.Pairwise (fun x y => ltF y x = false) → ∀ k (hk : k < ys.length), k < ys.countP p ↔ p ys[k] = true
  | [], _, k, hk => by simp at hk
  | y :: ys, hs, k, hk => by
    obtain ⟨hy, hs'⟩ := List.pairwise_cons.1 hs
    by_cases h : p y = true
    · rw [List.countP_cons_of_pos h]
      cases k with
      | zero => simp [h]
      | succ k =>
        have := count_iff hp ys hs' k (by simpa using hk)
        simp only [List.getElem_cons_succ]
        rw [← this]
        omega
    · have hz : ys.countP p = 0 := by
        rw [List.countP_eq_zero]
        intro z hz hpz
        exact h (hp z y hpz (hy z hz))
      rw [List.countP_cons_of_neg h, hz]
      constructor
      · intro h'; omega
      · intro h'
        cases k with
        | zero => exact absurd h' h
        | succ k =>
          have hk' : k < ys.length := by simpa using hk
          simp only [List.getElem_cons_succ] at h'
          exact absurd (hp _ y h' (hy _ (List.getElem_mem hk'))) h

theorem nan_closed (x y : Nat) : fnan x = true → ltF x y = false → fnan y = true := by
  unfold ltF
  simp only [fnan_key, flt_key]
  cases fkey x <;> cases fkey y <;> simp
theorem lt_closed (v x y : Nat) : (fnan x || flt x v) = true → ltF x y = false → (fnan y || flt y v) = true := by
  unfold ltF
  simp only [fnan_key, flt_key]
  cases fkey x <;> cases fkey y <;> cases fkey v <;> simp <;> omega
theorem le_closed (v x y : Nat) : (fnan x || fle x v) = true → ltF x y = false → (fnan y || fle y v) = true := by
  unfold ltF
  simp only [fle_eq, fnan_key, flt_key, feq_key]
  cases fkey x <;> cases fkey y <;> cases fkey v <;> simp <;> omega

theorem countP_or {p q : Nat → Bool} (h : ∀ x, p x = true → q x = false) : ∀ (ys : List Nat), ys.countP (fun x => p x || q x) = ys.countP p + ys.countP q
  | [] => rfl
  | y :: ys => by
    have ih := countP_or h ys
    have := h y
    cases hp : p y <;> cases hq : q y <;> simp [hp, hq, ih] <;> first | omega | (simp [hp, hq] at this)

theorem nan_flt (v x : Nat) : fnan x = true → flt x v = false := by
  simp only [fnan_key, flt_key]
  cases fkey x <;> simp
theorem nan_fle (v x : Nat) : fnan x = true → fle x v = false := by
  simp only [fle_eq, fnan_key, flt_key, feq_key]
  cases fkey x <;> simp
theorem fle_of_ne (x y : Nat) (hx : fnan x = false) (hy : fnan y = false) : feq x y = (!flt x y && fle x y) := by
  rw [fnan_key] at hx hy
  simp only [fle_eq, flt_key, feq_key]
  cases h1 : fkey x with
  | none => simp [h1] at hx
  | some a =>
    cases h2 : fkey y with
    | none => simp [h2] at hy
    | some b =>
      simp only [← Bool.decide_or, ← decide_not, ← Bool.decide_and]
      exact decide_eq_decide.2 (by omega)
theorem feq_self (x : Nat) (hx : fnan x = false) : feq x x = true := by
  unfold feq; unfold fnan at hx; simpa using hx

def nans (zs : List Nat) : Nat := zs.countP fnan
def lessN (x : Nat) (zs : List Nat) : Nat := zs.countP fun y => flt y x
def leN (x : Nat) (zs : List Nat) : Nat := zs.countP fun y => fle y x

theorem med_nan {zs ys : List Nat} (hp : ys.Perm zs) (hs : ys.Pairwise fun x y => ltF y x = false) {k : Nat} (hk : k < ys.length) : k < nans zs ↔ fnan ys[k] = true := by
  rw [← count_iff nan_closed ys hs k hk]
  unfold nans
  rw [hp.countP_eq]
theorem med_less {zs ys : List Nat} (hp : ys.Perm zs) (hs : ys.Pairwise fun x y => ltF y x = false) {k : Nat} (hk : k < ys.length) (x : Nat) (hn : ¬ k < nans zs) : lessN x zs ≤ k - nans zs ↔ flt ys[k] x = false := by
  have h1 := count_iff (lt_closed x) ys hs k hk
  rw [countP_or (nan_flt x), hp.countP_eq, hp.countP_eq] at h1
  have h2 := mt (med_nan hp hs hk).2 hn
  simp only [Bool.not_eq_true] at h2
  rw [h2, Bool.false_or] at h1
  unfold lessN nans at *
  rw [← Bool.not_eq_true, ← h1]
  omega
theorem med_le {zs ys : List Nat} (hp : ys.Perm zs) (hs : ys.Pairwise fun x y => ltF y x = false) {k : Nat} (hk : k < ys.length) (x : Nat) (hn : ¬ k < nans zs) : k - nans zs < leN x zs ↔ fle ys[k] x = true := by
  have h1 := count_iff (le_closed x) ys hs k hk
  rw [countP_or (nan_fle x), hp.countP_eq, hp.countP_eq] at h1
  have h2 := mt (med_nan hp hs hk).2 hn
  simp only [Bool.not_eq_true] at h2
  rw [h2, Bool.false_or] at h1
  unfold leN nans at *
  rw [← h1]
  omega
/-- WHERE THE LAW's TEST STRIKES, THE MEDIAN IS THAT VALUE. -/
theorem med_hit {zs ys : List Nat} (hp : ys.Perm zs) (hs : ys.Pairwise fun x y => ltF y x = false) {k : Nat} (hk : k < ys.length) (x : Nat) (hn : ¬ k < nans zs) (hx : fnan x = false) (h1 : lessN x zs ≤ k - nans zs) (h2 : k - nans zs < leN x zs) : feq ys[k] x = true := by
  have h3 := mt (med_nan hp hs hk).2 hn
  simp only [Bool.not_eq_true] at h3
  rw [fle_of_ne _ _ h3 hx, (med_less hp hs hk x hn).1 h1, (med_le hp hs hk x hn).1 h2]; rfl
/-- IT STRIKES SOMEWHERE. -/
theorem med_some {zs ys : List Nat} (hp : ys.Perm zs) (hs : ys.Pairwise fun x y => ltF y x = false) {k : Nat} (hk : k < ys.length) (hn : ¬ k < nans zs) : ∃ i, ∃ hi : i < zs.length, fnan zs[i] = false ∧ lessN zs[i] zs ≤ k - nans zs ∧ k - nans zs < leN zs[i] zs := by
  have h3 := mt (med_nan hp hs hk).2 hn
  simp only [Bool.not_eq_true] at h3
  obtain ⟨i, hi, e⟩ := List.mem_iff_getElem.1 (hp.subset (List.getElem_mem hk))
  refine ⟨i, hi, ?_⟩
  rw [e]
  refine ⟨h3, (med_less hp hs hk _ hn).2 ?_, (med_le hp hs hk _ hn).2 ?_⟩
  · rw [flt_key]; cases h : fkey ys[k] <;> simp
  · rw [fle_eq, feq_self _ h3, Bool.or_true]

end Go.Proofs.Ybulkexpfs
