/-
  Float arithmetic of which nothing is known: its value is fixed (some bits), or it is a NaN whose bits the tape gives. The class of a float: 'Cls'.
-/
import Derived.Test.Qxb6601926aModsLeaf
import Derived.Laws.FloatArith
namespace Go.Proofs.Qxb6601926aMods
open Go.RowKit

/-- The bits of the NaN that the tape gives. -/
def nanAt (w : World) (x y : Nat) : Nat := (Question.nanBits .f64 x y).cut (w.tape w.drawn (.nanBits .f64 x y))

theorem run_quo_nan (P : Program) (w : World) (t : TypeId) (x y : Nat) (h : floatBits .quo .f64 x y = none) :
    (binOp .quo t (.float .f64 x) (.float .f64 y)).run P w = .ok (.float .f64 (nanAt w x y)) w.drew := by
  have h' : FloatKind.f64.format.div x y = none := h
  simp [binOp, Op.floatArith, h', Question.forced, nanAt]
theorem run_sub_nan (P : Program) (w : World) (t : TypeId) (x y : Nat) (h : floatBits .sub .f64 x y = none) :
    (binOp .sub t (.float .f64 x) (.float .f64 y)).run P w = .ok (.float .f64 (nanAt w x y)) w.drew := by
  have h' : FloatKind.f64.format.sub x y = none := h
  simp [binOp, Op.floatArith, h', Question.forced, nanAt]

theorem eqB_self_nan {x : Nat} {s : Bool} {f : Nat} (h : Ieee.double.read x = .nan s f) : Fo.eqB x x = false := by
  cases k : Fo.eqB x x
  · rfl
  · obtain ⟨a, ha⟩ := (Fo.self_iff x).1 k
    unfold Fo.ky at ha
    rw [h] at ha
    cases ha
theorem nan_of_eqB {x : Nat} (h : Fo.eqB x x = false) : ∃ s f, Ieee.double.read x = .nan s f := by
  cases k : Ieee.double.read x with
  | nan s f => exact ⟨s, f, rfl⟩
  | infinity s =>
    have := (Fo.self_iff x).2 ⟨_, by unfold Fo.ky; rw [k]; rfl⟩
    rw [h] at this; cases this
  | number s m i =>
    have := (Fo.self_iff x).2 ⟨_, by unfold Fo.ky; rw [k]; rfl⟩
    rw [h] at this; cases this

theorem read_nan (s k : Nat) (hk : k < 4503599627370495) : ∃ n f, Ieee.double.read (s * 9223372036854775808 + 9218868437227405312 + 1 + k) = .nan n f := by
  have h1 : Ieee.double.signWeight = 9223372036854775808 := by decide +kernel
  have h2 : Ieee.double.binade = 4503599627370496 := by decide +kernel
  have h3 : Ieee.double.infRung = 9218868437227405312 := by decide +kernel
  unfold Ieee.Format.read
  simp only [h1, h2, h3]
  have e : (s * 9223372036854775808 + 9218868437227405312 + 1 + k) % 9223372036854775808 = 9218868437227405313 + k := by omega
  rw [e, if_neg (by omega), if_neg (by omega), if_neg (by omega)]
  exact ⟨_, _, rfl⟩

theorem nanAt_nan (w : World) (x y : Nat) : Fo.eqB (nanAt w x y) (nanAt w x y) = false := by
  obtain ⟨n, f, h⟩ : ∃ n f, Ieee.double.read (nanAt w x y) = .nan n f := by
    unfold nanAt
    generalize w.tape w.drawn (Question.nanBits .f64 x y) = t
    have := read_nan (t % 2) (t / 2 % 4503599627370495) (by omega)
    exact this
  exact eqB_self_nan h

theorem quo_of_nan {x : Nat} (y : Nat) (h : Fo.eqB x x = false) : floatBits .quo .f64 x y = none := by
  obtain ⟨s, f, k⟩ := nan_of_eqB h
  show Ieee.double.div x y = none
  unfold Ieee.Format.div
  rw [k]
  cases Ieee.double.read y <;> rfl

/-- A float's class: its bits, or 'a NaN'. -/
def Cls (c : Option Nat) (r : Nat) : Prop := c = some r ∨ (c = none ∧ Fo.eqB r r = false)
theorem Cls.same {c : Option Nat} {r s : Nat} (h : Cls c r) (k : Cls c s) : Fo.sameF r s = true := by
  rcases h with h | ⟨h, hr⟩
  · rcases k with k | ⟨k, hs⟩
    · rw [h] at k; cases k; exact Fo.sameF_self r
    · rw [h] at k; cases k
  · rcases k with k | ⟨k, hs⟩
    · rw [h] at k; cases k
    · exact Fo.sameF_of_nan hr hs
end Go.Proofs.Qxb6601926aMods
