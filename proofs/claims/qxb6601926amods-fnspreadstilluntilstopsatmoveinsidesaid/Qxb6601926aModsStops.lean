/-
  The walk of FnSpreadStillUntilStopsAtMoveInside.
-/
import Derived.Test.Qxb6601926aModsLeaf
namespace Go.Proofs.Qxb6601926aMods
open Go.RowKit
attribute [local go_sem] run_store_float

set_option maxHeartbeats 800000 in
theorem stops_nil (f t : Nat) (w : World) :
    Calls Trym.prog 5 #[.pointer none, .float .f64 f, .float .f64 t] w fun e w' => e = .returned (.bool true) ∧ Below w.heap.size w w' := by
  have s1 := Fo.sameF_self t
  cases a : (FloatKind.f64.format.order f t == some .lt)
  · go_enter Trym.func5, Trym.ntmps5
    go_wp2_with fail
    refine (copyptr_nil _).mono ?_
    rintro e w' ⟨rfl, rfl⟩
    go_wp2_with fail
    refine (zzuntil_any _ 0 (.pointer none) none f t _ (by simp [go_sem]) (.inl ⟨rfl, rfl⟩)).mono ?_
    rintro e w' ⟨rfl, rfl⟩
    go_wp2_with fail
    refine (samef_any _ _ _).mono ?_
    rintro e w' ⟨he, rfl⟩
    rw [show till none f t = t from rfl, s1] at he
    subst he
    go_wp2_with fail
    go_ret
    exact ⟨rfl, (Below.refl _ _).alloc (Nat.le_refl _) _⟩
  · have e1 : (FloatKind.f64.format.order t t == some .eq) = true := Fo.lt_right a
    go_enter Trym.func5, Trym.ntmps5
    go_wp2_with fail
    refine (copyptr_nil _).mono ?_
    rintro e w' ⟨rfl, rfl⟩
    go_wp2_with fail
    refine (zzuntil_any _ 0 (.pointer none) none f t _ (by simp [go_sem]) (.inl ⟨rfl, rfl⟩)).mono ?_
    rintro e w' ⟨he, rfl⟩
    rw [show till none f t = t from rfl] at he
    subst he
    go_wp2_with fail
    refine (samef_any _ _ _).mono ?_
    rintro e w' ⟨he, rfl⟩
    rw [s1] at he
    subst he
    go_wp2_with fail
    go_ret
    exact ⟨rfl, (Below.refl _ _).alloc (Nat.le_refl _) _⟩

/-- The move point is not inside: the answer is 'to'. -/
theorem till_out {c f t : Nat} (h : ¬ (Fo.ltB f c = true ∧ Fo.ltB c t = true)) : till (some c) f t = t := by
  unfold till; simp only; rw [if_neg h]
theorem till_in {c f t : Nat} (h : Fo.ltB f c = true) (k : Fo.ltB c t = true) : till (some c) f t = c := by
  unfold till; simp only; rw [if_pos ⟨h, k⟩]

set_option maxHeartbeats 1600000 in
theorem stops_some (b off c f t : Nat) (w : World) (hc : w.cell? ⟨b, off, none⟩ = some (.float .f64 c)) :
    Calls Trym.prog 5 #[.pointer (some ⟨b, off, none⟩), .float .f64 f, .float .f64 t] w fun e w' => e = .returned (.bool true) ∧ Below w.heap.size w w' := by
  have s1 := Fo.sameF_self t
  have s2 := Fo.sameF_self c
  cases a : (FloatKind.f64.format.order f t == some .lt)
  · have hT : Hid (till (some c) f t = t) := hide (till_out fun h => by
      have := Fo.lt_trans h.1 h.2
      unfold Fo.ltB at this
      rw [a] at this; cases this)
    go_enter Trym.func5, Trym.ntmps5
    go_wp2_with fail
    refine (copyptr_some b off c _ hc).mono ?_
    rintro e w' ⟨rfl, rfl⟩
    go_wp2_with fail
    refine (zzuntil_any _ 0 (.pointer (some ⟨w.heap.size, 0, none⟩)) (some c) f t _ (by simp [go_sem]) (.inr ⟨c, _, rfl, rfl, by simp; omega, by simp [go_sem]⟩)).mono ?_
    rintro e w' ⟨he, rfl⟩
    rw [hT.out] at he
    subst he
    go_wp2_with fail
    refine (samef_any _ _ _).mono ?_
    rintro e w' ⟨he, rfl⟩
    rw [s1] at he
    subst he
    go_wp2_with fail
    go_ret
    exact ⟨rfl, ((Below.refl _ _).alloc (Nat.le_refl _) _).alloc (by simp) _⟩
  cases x : (FloatKind.f64.format.order f c == some .lt)
  · have hT : Hid (till (some c) f t = t) := hide (till_out fun h => by
      have := h.1
      unfold Fo.ltB at this
      rw [x] at this; cases this)
    have e1 : (FloatKind.f64.format.order t t == some .eq) = true := Fo.lt_right a
    obtain ⟨z, hz⟩ : ∃ z, z = Fo.sameF t c := ⟨_, rfl⟩
    have HZ : Hid _ := hide hz
    clear hz
    go_enter Trym.func5, Trym.ntmps5
    go_wp2_with fail
    refine (copyptr_some b off c _ hc).mono ?_
    rintro e w' ⟨rfl, rfl⟩
    go_wp2_with fail
    refine (zzuntil_any _ 0 (.pointer (some ⟨w.heap.size, 0, none⟩)) (some c) f t _ (by simp [go_sem]) (.inr ⟨c, _, rfl, rfl, by simp; omega, by simp [go_sem]⟩)).mono ?_
    rintro e w' ⟨he, rfl⟩
    rw [hT.out] at he
    subst he
    go_wp2_with fail
    refine (samef_any _ _ _).mono ?_
    rintro e w' ⟨he, rfl⟩
    rw [s1] at he
    subst he
    go_wp2_with fail
    refine (samef_any _ _ _).mono ?_
    rintro e w' ⟨he, rfl⟩
    rw [← HZ.out] at he
    subst he
    go_wp2_with fail
    go_ret
    exact ⟨rfl, ((Below.refl _ _).alloc (Nat.le_refl _) _).alloc (by simp) _⟩
  cases y : (FloatKind.f64.format.order c t == some .lt)
  · have hT : Hid (till (some c) f t = t) := hide (till_out fun h => by
      have := h.2
      unfold Fo.ltB at this
      rw [y] at this; cases this)
    have e1 : (FloatKind.f64.format.order t t == some .eq) = true := Fo.lt_right a
    obtain ⟨z, hz⟩ : ∃ z, z = Fo.sameF t c := ⟨_, rfl⟩
    have HZ : Hid _ := hide hz
    clear hz
    go_enter Trym.func5, Trym.ntmps5
    go_wp2_with fail
    refine (copyptr_some b off c _ hc).mono ?_
    rintro e w' ⟨rfl, rfl⟩
    go_wp2_with fail
    refine (zzuntil_any _ 0 (.pointer (some ⟨w.heap.size, 0, none⟩)) (some c) f t _ (by simp [go_sem]) (.inr ⟨c, _, rfl, rfl, by simp; omega, by simp [go_sem]⟩)).mono ?_
    rintro e w' ⟨he, rfl⟩
    rw [hT.out] at he
    subst he
    go_wp2_with fail
    refine (samef_any _ _ _).mono ?_
    rintro e w' ⟨he, rfl⟩
    rw [s1] at he
    subst he
    go_wp2_with fail
    refine (samef_any _ _ _).mono ?_
    rintro e w' ⟨he, rfl⟩
    rw [← HZ.out] at he
    subst he
    go_wp2_with fail
    go_ret
    exact ⟨rfl, ((Below.refl _ _).alloc (Nat.le_refl _) _).alloc (by simp) _⟩
  · have hT : Hid (till (some c) f t = c) := hide (till_in x y)
    have e1 : (FloatKind.f64.format.order c c == some .eq) = true := Fo.lt_right x
    obtain ⟨z, hz⟩ : ∃ z, z = Fo.sameF c t := ⟨_, rfl⟩
    have HZ : Hid _ := hide hz
    clear hz
    go_enter Trym.func5, Trym.ntmps5
    go_wp2_with fail
    refine (copyptr_some b off c _ hc).mono ?_
    rintro e w' ⟨rfl, rfl⟩
    go_wp2_with fail
    refine (zzuntil_any _ 0 (.pointer (some ⟨w.heap.size, 0, none⟩)) (some c) f t _ (by simp [go_sem]) (.inr ⟨c, _, rfl, rfl, by simp; omega, by simp [go_sem]⟩)).mono ?_
    rintro e w' ⟨he, rfl⟩
    rw [hT.out] at he
    subst he
    go_wp2_with fail
    refine (samef_any _ _ _).mono ?_
    rintro e w' ⟨he, rfl⟩
    rw [← HZ.out] at he
    subst he
    go_wp2_with fail
    refine (samef_any _ _ _).mono ?_
    rintro e w' ⟨he, rfl⟩
    rw [s2] at he
    subst he
    cases z
    all_goals
      go_wp2_with fail
      go_ret
      exact ⟨rfl, ((Below.refl _ _).alloc (Nat.le_refl _) _).alloc (by simp) _⟩

theorem stops_any (v : Value) (mo : Option Nat) (f t : Nat) (w : World) (h : Came w v mo) :
    Calls Trym.prog 5 #[v, .float .f64 f, .float .f64 t] w fun e w' => e = .returned (.bool true) ∧ Below w.heap.size w w' := by
  rcases h with ⟨rfl, rfl⟩ | ⟨c, b, off, rfl, rfl, hc⟩
  · exact stops_nil f t w
  · exact stops_some b off c f t w hc
end Go.Proofs.Qxb6601926aMods
