/-
  THE ORDER OF THE DOUBLES, plain: 'order' on words is a linear preorder on what is no NaN. No Go in sight.
-/
import Derived.Laws.FloatArith
namespace Go.Proofs.Qxb6601926aMods
namespace Fo

/-- A datum's place on the line: (0, its number in units of the least place), (-1 or 1, 0) for an infinity, none for a NaN. -/
def kyD : Ieee.Datum → Option (Int × Int)
  | .number s m i => some (0, Ieee.signed s m (i - Ieee.double.leastPlace).toNat)
  | .infinity s => some (if s then -1 else 1, 0)
  | .nan .. => none
def ky (x : Nat) : Option (Int × Int) := kyD (Ieee.double.read x)

def cmpI (x y : Int) : Ordering := if x < y then .lt else if x = y then .eq else .gt
theorem cmp_int (x y : Int) : compare x y = cmpI x y := rfl
theorem signed_add (s : Bool) (m a b : Nat) : Ieee.signed s m (a + b) = Ieee.signed s m a * (2 ^ b : Nat) := by
  unfold Ieee.signed
  simp only [Nat.shiftLeft_eq]
  cases s
  · simp [Nat.pow_add, Int.mul_assoc]
  · simp [Nat.pow_add, Int.mul_assoc, Int.neg_mul]

theorem cmpI_scale (x y : Int) (c : Nat) (hc : 0 < c) : cmpI (x * c) (y * c) = cmpI x y := by
  have hc' : (0 : Int) < c := by omega
  unfold cmpI
  by_cases h : x < y
  · rw [if_pos h, if_pos (Int.mul_lt_mul_of_pos_right h hc')]
  · rw [if_neg h, if_neg (fun k => h (Int.lt_of_mul_lt_mul_right k (by omega)))]
    by_cases h2 : x = y
    · rw [if_pos h2, if_pos (by rw [h2])]
    · rw [if_neg h2, if_neg (fun k => h2 (Int.eq_of_mul_eq_mul_right (by omega) k))]

/-- The order of two places on the line. -/
def cmpK (a b : Int × Int) : Ordering := if a.1 < b.1 then .lt else if b.1 < a.1 then .gt else cmpI a.2 b.2

theorem read_place {x : Nat} {s : Bool} {m : Nat} {i : Int} (h : Ieee.double.read x = .number s m i) : Ieee.double.leastPlace ≤ i := by
  unfold Ieee.Format.read at h
  simp only at h
  split at h
  · cases h; exact Int.le_refl _
  · split at h
    · cases h; omega
    · split at h <;> cases h

theorem order_ky (x y : Nat) : Ieee.double.order x y = match ky x, ky y with | some a, some b => some (cmpK a b) | _, _ => none := by
  unfold Ieee.Format.order ky
  cases hx : Ieee.double.read x with
  | nan s t => cases hy : Ieee.double.read y <;> rfl
  | infinity s =>
    cases hy : Ieee.double.read y with
    | nan t u => rfl
    | infinity t => cases s <;> cases t <;> rfl
    | number t n j => cases s <;> rfl
  | number s m i =>
    cases hy : Ieee.double.read y with
    | nan t u => rfl
    | infinity t => cases t <;> rfl
    | number t n j =>
      have hi := read_place hx
      have hj := read_place hy
      show some (compare (Ieee.signed s m (i - min i j).toNat) (Ieee.signed t n (j - min i j).toNat)) = some (cmpI (Ieee.signed s m (i - Ieee.double.leastPlace).toNat) (Ieee.signed t n (j - Ieee.double.leastPlace).toNat))
      generalize Ieee.double.leastPlace = lp at *
      have e1 : (i - lp).toNat = (i - min i j).toNat + (min i j - lp).toNat := by omega
      have e2 : (j - lp).toNat = (j - min i j).toNat + (min i j - lp).toNat := by omega
      rw [e1, e2, signed_add, signed_add, cmpI_scale _ _ _ (Nat.two_pow_pos _), cmp_int]

/-! ### The comparisons as Go's text makes them -/
def ltB (a b : Nat) : Bool := FloatKind.f64.format.order a b == some .lt
def eqB (a b : Nat) : Bool := FloatKind.f64.format.order a b == some .eq
def leB (a b : Nat) : Bool := FloatKind.f64.format.order a b == some .lt || FloatKind.f64.format.order a b == some .eq
def geB (a b : Nat) : Bool := FloatKind.f64.format.order a b == some .gt || FloatKind.f64.format.order a b == some .eq
/-- zzSameF. -/
def sameF (a b : Nat) : Bool := FloatKind.f64.format.order a b == some .eq || (FloatKind.f64.format.order a a != some .eq && FloatKind.f64.format.order b b != some .eq)

def Less (a b : Int × Int) : Prop := a.1 < b.1 ∨ (a.1 = b.1 ∧ a.2 < b.2)
theorem cmpK_lt (a b : Int × Int) : cmpK a b = .lt ↔ Less a b := by
  unfold cmpK cmpI Less
  by_cases h1 : a.1 < b.1
  · rw [if_pos h1]; exact ⟨fun _ => .inl h1, fun _ => rfl⟩
  · rw [if_neg h1]
    by_cases h2 : b.1 < a.1
    · rw [if_pos h2]; exact ⟨fun h => (by cases h), fun h => (by omega)⟩
    · rw [if_neg h2]
      by_cases h3 : a.2 < b.2
      · rw [if_pos h3]; exact ⟨fun _ => .inr ⟨by omega, h3⟩, fun _ => rfl⟩
      · rw [if_neg h3]
        split
        · exact ⟨fun h => (by cases h), fun h => (by omega)⟩
        · exact ⟨fun h => (by cases h), fun h => (by omega)⟩
theorem cmpK_eq (a b : Int × Int) : cmpK a b = .eq ↔ a = b := by
  rw [Prod.ext_iff]
  unfold cmpK cmpI
  by_cases h1 : a.1 < b.1
  · rw [if_pos h1]; exact ⟨fun h => (by cases h), fun h => (by omega)⟩
  · rw [if_neg h1]
    by_cases h2 : b.1 < a.1
    · rw [if_pos h2]; exact ⟨fun h => (by cases h), fun h => (by omega)⟩
    · rw [if_neg h2]
      by_cases h3 : a.2 < b.2
      · rw [if_pos h3]; exact ⟨fun h => (by cases h), fun h => (by omega)⟩
      · rw [if_neg h3]
        split
        · exact ⟨fun _ => (by omega), fun _ => rfl⟩
        · exact ⟨fun h => (by cases h), fun h => (by omega)⟩
theorem cmpK_gt (a b : Int × Int) : cmpK a b = .gt ↔ Less b a := by
  have h1 := cmpK_lt a b
  have h2 := cmpK_eq a b
  rw [Prod.ext_iff] at h2
  unfold Less at *
  cases h : cmpK a b <;> simp [h] at h1 h2 ⊢ <;> omega

theorem ltB_iff (x y : Nat) : ltB x y = true ↔ ∃ a b, ky x = some a ∧ ky y = some b ∧ Less a b := by
  unfold ltB
  rw [beq_iff_eq, show FloatKind.f64.format.order x y = _ from order_ky x y]
  cases hx : ky x with
  | none => simp
  | some a =>
    cases hy : ky y with
    | none => simp
    | some b => simp [cmpK_lt]
theorem eqB_iff (x y : Nat) : eqB x y = true ↔ ∃ a, ky x = some a ∧ ky y = some a := by
  unfold eqB
  rw [beq_iff_eq, show FloatKind.f64.format.order x y = _ from order_ky x y]
  cases hx : ky x with
  | none => simp
  | some a =>
    cases hy : ky y with
    | none => simp
    | some b => simp [cmpK_eq]; exact eq_comm
theorem gtB_iff (x y : Nat) : (FloatKind.f64.format.order x y == some .gt) = true ↔ ltB y x = true := by
  rw [ltB_iff, beq_iff_eq, show FloatKind.f64.format.order x y = _ from order_ky x y]
  cases hx : ky x with
  | none => simp
  | some a =>
    cases hy : ky y with
    | none => simp
    | some b => simp [cmpK_gt]
theorem leB_iff (x y : Nat) : leB x y = true ↔ ltB x y = true ∨ eqB x y = true := by
  unfold leB ltB eqB; rw [Bool.or_eq_true]
theorem eqB_comm (x y : Nat) : eqB x y = true ↔ eqB y x = true := by
  rw [eqB_iff, eqB_iff]; exact ⟨fun ⟨a, h1, h2⟩ => ⟨a, h2, h1⟩, fun ⟨a, h1, h2⟩ => ⟨a, h2, h1⟩⟩
theorem geB_iff (x y : Nat) : geB x y = true ↔ leB y x = true := by
  rw [leB_iff, ← gtB_iff, eqB_comm]; unfold geB eqB; rw [Bool.or_eq_true]
theorem self_iff (x : Nat) : eqB x x = true ↔ ∃ a, ky x = some a := by
  rw [eqB_iff]; exact ⟨fun ⟨a, h, _⟩ => ⟨a, h⟩, fun ⟨a, h⟩ => ⟨a, h, h⟩⟩
theorem lt_left {x y : Nat} (h : ltB x y = true) : eqB x x = true := by
  obtain ⟨a, b, h1, h2, _⟩ := (ltB_iff x y).1 h; exact (self_iff x).2 ⟨a, h1⟩
theorem lt_right {x y : Nat} (h : ltB x y = true) : eqB y y = true := by
  obtain ⟨a, b, h1, h2, _⟩ := (ltB_iff x y).1 h; exact (self_iff y).2 ⟨b, h2⟩
theorem lt_trans {x y z : Nat} (h : ltB x y = true) (k : ltB y z = true) : ltB x z = true := by
  obtain ⟨a, b, h1, h2, h3⟩ := (ltB_iff x y).1 h
  obtain ⟨b', c, k1, k2, k3⟩ := (ltB_iff y z).1 k
  rw [h2] at k1; cases k1
  exact (ltB_iff x z).2 ⟨a, c, h1, k2, by unfold Less at *; omega⟩
theorem le_self {x : Nat} (h : eqB x x = true) : leB x x = true := (leB_iff x x).2 (.inr h)
theorem lt_le {x y : Nat} (h : ltB x y = true) : leB x y = true := (leB_iff x y).2 (.inl h)
theorem lt_irrefl (x : Nat) : ¬ ltB x x = true := by
  intro h
  obtain ⟨a, b, h1, h2, h3⟩ := (ltB_iff x x).1 h
  rw [h1] at h2; cases h2
  unfold Less at h3; omega
theorem lt_of_le_lt {x y z : Nat} (h : leB x y = true) (k : ltB y z = true) : ltB x z = true := by
  rcases (leB_iff x y).1 h with h | h
  · exact lt_trans h k
  · obtain ⟨a, h1, h2⟩ := (eqB_iff x y).1 h
    obtain ⟨b, c, k1, k2, k3⟩ := (ltB_iff y z).1 k
    rw [h2] at k1; cases k1
    exact (ltB_iff x z).2 ⟨a, c, h1, k2, k3⟩
theorem lt_of_lt_le {x y z : Nat} (h : ltB x y = true) (k : leB y z = true) : ltB x z = true := by
  rcases (leB_iff y z).1 k with k | k
  · exact lt_trans h k
  · obtain ⟨a, b, h1, h2, h3⟩ := (ltB_iff x y).1 h
    obtain ⟨c, k1, k2⟩ := (eqB_iff y z).1 k
    rw [h2] at k1; cases k1
    exact (ltB_iff x z).2 ⟨a, b, h1, k2, h3⟩
theorem le_trans {x y z : Nat} (h : leB x y = true) (k : leB y z = true) : leB x z = true := by
  rcases (leB_iff x y).1 h with h | h
  · exact lt_le (lt_of_lt_le h k)
  · rcases (leB_iff y z).1 k with k | k
    · obtain ⟨a, h1, h2⟩ := (eqB_iff x y).1 h
      obtain ⟨b, c, k1, k2, k3⟩ := (ltB_iff y z).1 k
      rw [h2] at k1; cases k1
      exact lt_le ((ltB_iff x z).2 ⟨a, c, h1, k2, k3⟩)
    · obtain ⟨a, h1, h2⟩ := (eqB_iff x y).1 h
      obtain ⟨b, k1, k2⟩ := (eqB_iff y z).1 k
      rw [h2] at k1; cases k1
      exact (leB_iff x z).2 (.inr ((eqB_iff x z).2 ⟨a, h1, k2⟩))
theorem le_left {x y : Nat} (h : leB x y = true) : eqB x x = true := by
  rcases (leB_iff x y).1 h with h | h
  · exact lt_left h
  · obtain ⟨a, h1, h2⟩ := (eqB_iff x y).1 h; exact (self_iff x).2 ⟨a, h1⟩
theorem le_right {x y : Nat} (h : leB x y = true) : eqB y y = true := by
  rcases (leB_iff x y).1 h with h | h
  · exact lt_right h
  · obtain ⟨a, h1, h2⟩ := (eqB_iff x y).1 h; exact (self_iff y).2 ⟨a, h2⟩
theorem le_of_not_lt {x y : Nat} (hx : eqB x x = true) (hy : eqB y y = true) (h : ¬ ltB x y = true) : leB y x = true := by
  obtain ⟨a, ha⟩ := (self_iff x).1 hx
  obtain ⟨b, hb⟩ := (self_iff y).1 hy
  by_cases k : Less b a
  · exact lt_le ((ltB_iff y x).2 ⟨b, a, hb, ha, k⟩)
  · have n : ¬ Less a b := fun k => h ((ltB_iff x y).2 ⟨a, b, ha, hb, k⟩)
    have e : b = a := by rw [Prod.ext_iff]; unfold Less at *; omega
    subst e
    exact (leB_iff y x).2 (.inr ((eqB_iff y x).2 ⟨b, hb, ha⟩))
theorem eq_of_not_lts {x y : Nat} (hx : eqB x x = true) (hy : eqB y y = true) (h : ¬ ltB x y = true) (k : ¬ ltB y x = true) : eqB x y = true := by
  rcases (leB_iff y x).1 (le_of_not_lt hx hy h) with e | e
  · exact absurd e k
  · exact (eqB_comm x y).2 e

theorem sameF_self (x : Nat) : sameF x x = true := by
  unfold sameF
  cases h : (FloatKind.f64.format.order x x == some .eq)
  · rw [show (FloatKind.f64.format.order x x != some .eq) = !(FloatKind.f64.format.order x x == some .eq) from rfl, h]; rfl
  · rfl
theorem sameF_of_eq {x y : Nat} (h : eqB x y = true) : sameF x y = true := by
  unfold sameF; rw [show (FloatKind.f64.format.order x y == some .eq) = true from h]; rfl
theorem sameF_of_nan {x y : Nat} (h : eqB x x = false) (k : eqB y y = false) : sameF x y = true := by
  unfold sameF
  rw [show (FloatKind.f64.format.order x x != some .eq) = !(eqB x x) from rfl, show (FloatKind.f64.format.order y y != some .eq) = !(eqB y y) from rfl, h, k]
  simp
end Fo
end Go.Proofs.Qxb6601926aMods
