/-
  The walk of FnSameStreamIsAnEquivalence out of its callees' contracts: every input.
-/
import Derived.Test.Qxb6601870aModsLaw
namespace Go.Proofs.Qxb6601870aMods
open Go.RowKit

section
variable (p q r : Option Addr) (l0 l4 l8 k0 k4 k8 : Nat) (a1 a2 a3 a5 a6 a7 a9 a10 a11 : Int) (w : World)

set_option maxHeartbeats 400000 in
theorem law_bytes (h : 1048576 < l0 + l4 + l8) :
    Calls Trym.prog 3 #[.slice p l0 k0, .int .i64 a1, .int .i64 a2, .int .i64 a3, .slice q l4 k4, .int .i64 a5, .int .i64 a6, .int .i64 a7, .slice r l8 k8, .int .i64 a9, .int .i64 a10, .int .i64 a11] w
      fun e w' => e = .returned (.bool true) ∧ Below w.heap.size w w' := by
  go_enter Trym.func3, Trym.ntmps3
  go_wp2_with fail
  refine (bytes_no p q r l0 l4 l8 k0 k4 k8 a1 a2 a3 a5 a6 a7 a9 a10 a11 _ h).mono ?_
  rintro e w' ⟨rfl, rfl⟩
  go_wp2_with fail
  go_ret
  exact ⟨rfl, Below.refl _ _⟩

set_option maxHeartbeats 800000 in
theorem law_len (h : l0 + l4 + l8 ≤ 1048576) (h2 : 262144 < (l0 : Int) ∨ 262144 < (l4 : Int) ∨ 262144 < (l8 : Int)) :
    Calls Trym.prog 3 #[.slice p l0 k0, .int .i64 a1, .int .i64 a2, .int .i64 a3, .slice q l4 k4, .int .i64 a5, .int .i64 a6, .int .i64 a7, .slice r l8 k8, .int .i64 a9, .int .i64 a10, .int .i64 a11] w
      fun e w' => e = .returned (.bool true) ∧ Below w.heap.size w w' := by
  by_cases c0 : 262144 < (l0 : Int)
  · clear h2
    go_enter Trym.func3, Trym.ntmps3
    go_wp2_with fail
    refine (bytes_yes p q r l0 l4 l8 k0 k4 k8 a1 a2 a3 a5 a6 a7 a9 a10 a11 _ h).mono ?_
    rintro e w' ⟨rfl, rfl⟩
    go_wp2_with fail
    go_ret
    exact ⟨rfl, Below.refl _ _⟩
  · by_cases c4 : 262144 < (l4 : Int)
    · clear h2
      go_enter Trym.func3, Trym.ntmps3
      go_wp2_with fail
      refine (bytes_yes p q r l0 l4 l8 k0 k4 k8 a1 a2 a3 a5 a6 a7 a9 a10 a11 _ h).mono ?_
      rintro e w' ⟨rfl, rfl⟩
      go_wp2_with fail
      go_ret
      exact ⟨rfl, Below.refl _ _⟩
    · have c8 : 262144 < (l8 : Int) := by omega
      clear h2
      go_enter Trym.func3, Trym.ntmps3
      go_wp2_with fail
      refine (bytes_yes p q r l0 l4 l8 k0 k4 k8 a1 a2 a3 a5 a6 a7 a9 a10 a11 _ h).mono ?_
      rintro e w' ⟨rfl, rfl⟩
      go_wp2_with fail
      go_ret
      exact ⟨rfl, Below.refl _ _⟩

set_option maxHeartbeats 1600000 in
theorem law_holds (h : l0 + l4 + l8 ≤ 1048576) (c0 : (l0 : Int) ≤ 262144) (c4 : (l4 : Int) ≤ 262144) (c8 : (l8 : Int) ≤ 262144) (h2 : ¬ HoldsP l0 a1 ∨ ¬ HoldsP l4 a5 ∨ ¬ HoldsP l8 a9) :
    Calls Trym.prog 3 #[.slice p l0 k0, .int .i64 a1, .int .i64 a2, .int .i64 a3, .slice q l4 k4, .int .i64 a5, .int .i64 a6, .int .i64 a7, .slice r l8 k8, .int .i64 a9, .int .i64 a10, .int .i64 a11] w
      fun e w' => e = .returned (.bool true) ∧ Below w.heap.size w w' := by
  have H2 : Hid _ := h2
  clear h2
  by_cases g0 : HoldsP l0 a1
  · by_cases g4 : HoldsP l4 a5
    · have g8 : ¬ HoldsP l8 a9 := by rcases H2.out with h | h | h <;> first | exact absurd ‹_› h | exact h
      clear H2
      go_enter Trym.func3, Trym.ntmps3
      go_wp2_with fail
      refine (bytes_yes p q r l0 l4 l8 k0 k4 k8 a1 a2 a3 a5 a6 a7 a9 a10 a11 _ h).mono ?_
      rintro e w' ⟨rfl, rfl⟩
      go_wp2_with fail
      refine (holds_yes p l0 k0 a1 _ (by omega) g0).mono ?_
      rintro e w' ⟨rfl, rfl⟩
      go_wp2_with fail
      refine (holds_yes q l4 k4 a5 _ (by omega) g4).mono ?_
      rintro e w' ⟨rfl, rfl⟩
      go_wp2_with fail
      refine (holds_no r l8 k8 a9 _ (by omega) g8).mono ?_
      rintro e w' ⟨rfl, rfl⟩
      go_wp2_with fail
      go_ret
      exact ⟨rfl, Below.refl _ _⟩
    · clear H2
      go_enter Trym.func3, Trym.ntmps3
      go_wp2_with fail
      refine (bytes_yes p q r l0 l4 l8 k0 k4 k8 a1 a2 a3 a5 a6 a7 a9 a10 a11 _ h).mono ?_
      rintro e w' ⟨rfl, rfl⟩
      go_wp2_with fail
      refine (holds_yes p l0 k0 a1 _ (by omega) g0).mono ?_
      rintro e w' ⟨rfl, rfl⟩
      go_wp2_with fail
      refine (holds_no q l4 k4 a5 _ (by omega) g4).mono ?_
      rintro e w' ⟨rfl, rfl⟩
      go_wp2_with fail
      go_ret
      exact ⟨rfl, Below.refl _ _⟩
  · clear H2
    go_enter Trym.func3, Trym.ntmps3
    go_wp2_with fail
    refine (bytes_yes p q r l0 l4 l8 k0 k4 k8 a1 a2 a3 a5 a6 a7 a9 a10 a11 _ h).mono ?_
    rintro e w' ⟨rfl, rfl⟩
    go_wp2_with fail
    refine (holds_no p l0 k0 a1 _ (by omega) g0).mono ?_
    rintro e w' ⟨rfl, rfl⟩
    go_wp2_with fail
    go_ret
    exact ⟨rfl, Below.refl _ _⟩
end

/-- What is known of a slice of bytes that came in and is not nil. -/
def Came (w : World) (b off len : Nat) (zs : List Int) : Prop :=
  len ≤ zs.length ∧ b < w.heap.size ∧ ∀ i, i < zs.length → w.cell? ⟨b, off + i, none⟩ = some (.int .u8 (zs.getD i 0))
theorem Came.below {w w' : World} {b off len : Nat} {zs : List Int} (h : Came w b off len zs) (hb : Below w.heap.size w w') : Came w' b off len zs :=
  ⟨h.1, Nat.lt_of_lt_of_le h.2.1 hb.size, fun i hi => (hb.cell (p := ⟨b, off + i, none⟩) h.2.1).trans (h.2.2 i hi)⟩
theorem bstep {B : Nat} {w w1 w2 : World} (h : Below B w w1) (hB : B ≤ w.heap.size) (k : Below w1.heap.size w1 w2) : Below B w w2 := h.trans (k.mono (Nat.le_trans hB h.size))

set_option maxHeartbeats 1600000 in
theorem law_main (b0 o0 b4 o4 b8 o8 l0 l4 l8 k0 k4 k8 : Nat) (a1 a2 a3 a5 a6 a7 a9 a10 a11 : Int) (z0 z4 z8 : List Int) (w : World) (w0 : Came w b0 o0 l0 z0) (w4 : Came w b4 o4 l4 z4) (w8 : Came w b8 o8 l8 z8)
    (h : l0 + l4 + l8 ≤ 1048576) (c0 : (l0 : Int) ≤ 262144) (c4 : (l4 : Int) ≤ 262144) (c8 : (l8 : Int) ≤ 262144) (g0 : HoldsP l0 a1) (g4 : HoldsP l4 a5) (g8 : HoldsP l8 a9) :
    Calls Trym.prog 3 #[.slice (some ⟨b0, o0, none⟩) l0 k0, .int .i64 a1, .int .i64 a2, .int .i64 a3, .slice (some ⟨b4, o4, none⟩) l4 k4, .int .i64 a5, .int .i64 a6, .int .i64 a7, .slice (some ⟨b8, o8, none⟩) l8 k8, .int .i64 a9, .int .i64 a10, .int .i64 a11] w
      fun e w' => e = .returned (.bool true) ∧ Below w.heap.size w w' := by
  go_enter Trym.func3, Trym.ntmps3
  go_wp2_with fail
  refine (bytes_yes _ _ _ l0 l4 l8 k0 k4 k8 a1 a2 a3 a5 a6 a7 a9 a10 a11 _ h).mono ?_
  rintro e w' ⟨rfl, rfl⟩
  go_wp2_with fail
  refine (holds_yes _ l0 k0 a1 _ (by omega) g0).mono ?_
  rintro e w' ⟨rfl, rfl⟩
  go_wp2_with fail
  refine (holds_yes _ l4 k4 a5 _ (by omega) g4).mono ?_
  rintro e w' ⟨rfl, rfl⟩
  go_wp2_with fail
  refine (holds_yes _ l8 k8 a9 _ (by omega) g8).mono ?_
  rintro e w' ⟨rfl, rfl⟩
  go_wp2_with fail
  refine (copy_any b0 o0 l0 k0 z0 _ w0.1 (by omega) w0.2.2 w0.2.1).mono ?_
  rintro e w1 ⟨rfl, r0, e1⟩
  have w4' := w4.below e1
  have w8' := w8.below e1
  go_wp2_with fail
  refine (copy_any b4 o4 l4 k4 z4 _ w4'.1 (by omega) w4'.2.2 w4'.2.1).mono ?_
  rintro e w2 ⟨rfl, r4, e2⟩
  have r0' := r0.below e2
  have w8'' := w8'.below e2
  go_wp2_with fail
  refine (copy_any b8 o8 l8 k8 z8 _ w8''.1 (by omega) w8''.2.2 w8''.2.1).mono ?_
  rintro e w3 ⟨rfl, r8, e3⟩
  have E : Below w'.heap.size w' w3 := bstep (bstep e1 (Nat.le_refl _) e2) (Nat.le_refl _) e3
  have R0 := r0'.below e3
  have R4 := r4.below e3
  have R8 := r8
  clear r0 r0' r4 r8 e1 e2 e3 w0 w4 w8 w4' w8' w8''
  obtain ⟨n0, p0, q0⟩ := g0
  obtain ⟨n4, p4, q4⟩ := g4
  obtain ⟨n8, p8, q8⟩ := g8
  obtain ⟨x, hx⟩ : ∃ x, x = sameB (z0.take l0) a1 (z4.take l4) a5 := ⟨_, rfl⟩
  obtain ⟨y, hy⟩ : ∃ y, y = sameB (z4.take l4) a5 (z8.take l8) a9 := ⟨_, rfl⟩
  obtain ⟨z, hz⟩ : ∃ z, z = sameB (z0.take l0) a1 (z8.take l8) a9 := ⟨_, rfl⟩
  have T : Hid (x = true → y = true → z = true) := fun h1 h2 => by rw [hz]; exact sameB_trans (by rw [← hx]; exact h1) (by rw [← hy]; exact h2)
  have HX : Hid _ := hx
  have HY : Hid _ := hy
  have HZ : Hid _ := hz
  clear hx hy hz
  go_wp2_with fail
  refine (zzsame_any _ l0 (z0.take l0) a1 a2 a3 _ l0 (z0.take l0) a1 a2 a3 _ R0 R0 (by omega) (by omega) (by omega) (by omega) p0 (by omega) (by omega)).mono ?_
  rintro e w4 ⟨he, e4⟩
  rw [sameB_refl] at he
  subst he
  replace R0 := R0.below e4
  replace R4 := R4.below e4
  replace R8 := R8.below e4
  replace E := bstep E (Nat.le_refl _) e4
  clear e4
  go_wp2_with fail
  refine (zzsame_any _ l4 (z4.take l4) a5 a6 a7 _ l4 (z4.take l4) a5 a6 a7 _ R4 R4 (by omega) (by omega) (by omega) (by omega) p4 (by omega) (by omega)).mono ?_
  rintro e w5 ⟨he, e5⟩
  rw [sameB_refl] at he
  subst he
  replace R0 := R0.below e5
  replace R4 := R4.below e5
  replace R8 := R8.below e5
  replace E := bstep E (Nat.le_refl _) e5
  clear e5
  go_wp2_with fail
  refine (zzsame_any _ l8 (z8.take l8) a9 a10 a11 _ l8 (z8.take l8) a9 a10 a11 _ R8 R8 (by omega) (by omega) (by omega) (by omega) p8 (by omega) (by omega)).mono ?_
  rintro e w6 ⟨he, e6⟩
  rw [sameB_refl] at he
  subst he
  replace R0 := R0.below e6
  replace R4 := R4.below e6
  replace R8 := R8.below e6
  replace E := bstep E (Nat.le_refl _) e6
  clear e6
  go_wp2_with fail
  refine (zzsame_any _ l0 (z0.take l0) a1 a2 a3 _ l4 (z4.take l4) a5 a6 a7 _ R0 R4 (by omega) (by omega) (by omega) (by omega) p0 (by omega) (by omega)).mono ?_
  rintro e w7 ⟨he, e7⟩
  rw [← HX.out] at he
  subst he
  replace R0 := R0.below e7
  replace R4 := R4.below e7
  replace R8 := R8.below e7
  replace E := bstep E (Nat.le_refl _) e7
  clear e7
  go_wp2_with fail
  refine (zzsame_any _ l4 (z4.take l4) a5 a6 a7 _ l0 (z0.take l0) a1 a2 a3 _ R4 R0 (by omega) (by omega) (by omega) (by omega) p4 (by omega) (by omega)).mono ?_
  rintro e w8 ⟨he, e8⟩
  rw [sameB_symm, ← HX.out] at he
  subst he
  replace R0 := R0.below e8
  replace R4 := R4.below e8
  replace R8 := R8.below e8
  replace E := bstep E (Nat.le_refl _) e8
  clear e8
  go_wp2_with fail
  refine (zzsame_any _ l4 (z4.take l4) a5 a6 a7 _ l8 (z8.take l8) a9 a10 a11 _ R4 R8 (by omega) (by omega) (by omega) (by omega) p4 (by omega) (by omega)).mono ?_
  rintro e w9 ⟨he, e9⟩
  rw [← HY.out] at he
  subst he
  replace R0 := R0.below e9
  replace R4 := R4.below e9
  replace R8 := R8.below e9
  replace E := bstep E (Nat.le_refl _) e9
  clear e9
  go_wp2_with fail
  refine (zzsame_any _ l0 (z0.take l0) a1 a2 a3 _ l8 (z8.take l8) a9 a10 a11 _ R0 R8 (by omega) (by omega) (by omega) (by omega) p0 (by omega) (by omega)).mono ?_
  rintro e w10 ⟨he, e10⟩
  rw [← HZ.out] at he
  subst he
  replace R0 := R0.below e10
  replace R4 := R4.below e10
  replace R8 := R8.below e10
  replace E := bstep E (Nat.le_refl _) e10
  clear e10
  clear HX HY HZ R0 R4 R8
  cases x
  · go_wp2_with fail
    go_ret
    exact ⟨rfl, E⟩
  · cases y
    · go_wp2_with fail
      go_ret
      exact ⟨rfl, E⟩
    · cases z
      · exact absurd (T.out rfl rfl) (by decide)
      · go_wp2_with fail
        go_ret
        exact ⟨rfl, E⟩
end Go.Proofs.Qxb6601870aMods
