/-
  How the arguments are opened: a pointer to a float64, a []float64, a []int.
-/
import Derived.Test.Qxb6601926aModsLeaf
import Derived.Laws.Cover2
import Derived.ChangeOld
import Derived.Deep.Slices
import Derived.OpenShut
namespace Go.Proofs.Qxb6601926aMods
open Go.ChangeShapes Go.WideShapes Go.ChangeAt Go.RowKit
open Go.Deep (open_slice)

theorem Trym.cells22 : Trym.prog.cellsOf 22 = 1 := by kernel_rfl
theorem Trym.cells3 : Trym.prog.cellsOf 3 = 1 := by kernel_rfl

section
variable {H : Type} {enc : TypeId × Value → H} {P : Program} {w : World} {base : Nat} {spare : Nat → Bool} {held : Bool} {fuel : Nat} {t : TypeId} {cs : List Value} {x : DataW H × List MemPlace}
theorem trod_float {k : FloatKind} (ht : P.underlying t = some (.float k)) (h : DataW.trod enc P w base spare held fuel t cs = some x) : ∃ n, cs = [.float k n] ∧ x = (.lit (.float k n), []) ∧ (Lit.float k n).wf = true := by
  cases fuel with
  | zero => simp [DataW.trod] at h
  | succ n =>
    unfold DataW.trod at h
    rw [ht] at h
    split at h <;> simp_all
end

section
variable {H : Type} {enc : TypeId × Value → H} {w : World} {base b0 : Nat} {spare : Nat → Bool} {held : Bool} {r : Reach} {v : Value} {d : DataW H} {ps : List MemPlace}

theorem came_ptr (hval : Value.okWide Trym.prog w r b0 23 v) (hd : DataW.Trod enc Trym.prog w base spare held 23 v d ps) : ∃ mo, Came w v mo := by
  rcases open_ptr Trym.underlying23 (by rw [Trym.cells22]; omega) hval hd with ⟨h, _⟩ | ⟨b, off, cs, y, fuel, h, _, _, _, hcell, hy⟩
  · exact ⟨none, .inl ⟨rfl, h⟩⟩
  · obtain ⟨n, rfl, _, _⟩ := trod_float Trym.underlying22 hy
    have := hcell 0 (by rw [Trym.cells22]; omega)
    exact ⟨some n, .inr ⟨n, b, off, rfl, h, by simpa using this⟩⟩

/-- A []float64 that came in: nil, or a row whose first cells hold the numbers zs. -/
def CameF (w : World) (a : Option Addr) (len : Nat) (zs : List Nat) : Prop :=
  (a = none ∧ len = 0 ∧ zs = []) ∨ ∃ x, a = some x ∧ zs.length = len ∧ ∀ i, i < len → w.cell? (x.add i) = some (.float .f64 (zs.getD i 0))
/-- A []int that came in. -/
def CameI (w : World) (a : Option Addr) (len : Nat) (zs : List Int) : Prop :=
  (a = none ∧ len = 0 ∧ zs = []) ∨ ∃ x, a = some x ∧ zs.length = len ∧ ∀ i, i < len → w.cell? (x.add i) = some (.int .i64 (zs.getD i 0))

/-- The bits of a float's datum; a number's datum. -/
def bitsOf : DataW H → Nat
  | .lit (.float _ n) => n
  | _ => 0
def numOf : DataW H → Int
  | .lit (.int _ n) => n
  | _ => 0

theorem came_floats (hval : Value.okWide Trym.prog w r b0 29 v) (hd : DataW.Trod enc Trym.prog w base spare held 29 v d ps) : ∃ a len cap zs, v = .slice a len cap ∧ CameF w a len zs := by
  obtain ⟨a, len, cap, rfl⟩ := okWide_slice Trym.underlying29 hval
  obtain ⟨fuel, hf⟩ := hd
  rcases open_slice Trym.underlying29 hf with ⟨h, _⟩ | ⟨x, len', cap', m, n, D, Pl, h, _, hl, _, hm, _, hel⟩
  · simp [Value.cells] at h
    obtain ⟨rfl, rfl, rfl⟩ := h
    exact ⟨none, 0, 0, [], rfl, .inl ⟨rfl, rfl, rfl⟩⟩
  · simp [Value.cells] at h
    obtain ⟨rfl, rfl, rfl⟩ := h
    refine ⟨some x, len, cap, (List.range len).map fun i => bitsOf (D i), rfl, .inr ⟨x, rfl, by simp, fun i hi => ?_⟩⟩
    obtain ⟨cs, h1, h2⟩ := hel i (by rw [hm]; split <;> omega)
    obtain ⟨k, rfl, h3, _⟩ := trod_float Trym.underlying22 h2
    rw [Trym.cells22, Nat.mul_one] at h1
    rw [cell_of_cells?_one h1]
    simp only [Prod.mk.injEq] at h3
    simp [List.getD, hi, h3.1, bitsOf]

theorem came_ints (hval : Value.okWide Trym.prog w r b0 37 v) (hd : DataW.Trod enc Trym.prog w base spare held 37 v d ps) : ∃ a len cap zs, v = .slice a len cap ∧ CameI w a len zs := by
  obtain ⟨a, len, cap, rfl⟩ := okWide_slice Trym.underlying37 hval
  obtain ⟨fuel, hf⟩ := hd
  rcases open_slice Trym.underlying37 hf with ⟨h, _⟩ | ⟨x, len', cap', m, n, D, Pl, h, _, hl, _, hm, _, hel⟩
  · simp [Value.cells] at h
    obtain ⟨rfl, rfl, rfl⟩ := h
    exact ⟨none, 0, 0, [], rfl, .inl ⟨rfl, rfl, rfl⟩⟩
  · simp [Value.cells] at h
    obtain ⟨rfl, rfl, rfl⟩ := h
    refine ⟨some x, len, cap, (List.range len).map fun i => numOf (D i), rfl, .inr ⟨x, rfl, by simp, fun i hi => ?_⟩⟩
    obtain ⟨cs, h1, h2⟩ := hel i (by rw [hm]; split <;> omega)
    obtain ⟨k, rfl, h3, _⟩ := DataW.trod_int Trym.underlying3 h2
    rw [Trym.cells3, Nat.mul_one] at h1
    rw [cell_of_cells?_one h1]
    simp only [Prod.mk.injEq] at h3
    simp [List.getD, hi, h3.1, numOf]
end
end Go.Proofs.Qxb6601926aMods
