/-
  The walk of FnScenarioStillUntilSettlesWithinSpread.
-/
import Derived.Test.Qxb6601926aModsHeads
namespace Go.Proofs.Qxb6601926aMods
open Go.RowKit
attribute [local go_sem] run_store_float

set_option maxHeartbeats 3200000 in
theorem settles_main (v : Value) (mo : Option Nat) (a1 a2 : Option Addr) (n c1 c2 f t : Nat) (ats : List Nat) (kds : List Int) (w : World) (hn : n ≤ 65536) (h : Came w v mo) (w1 : CameF w a1 n ats) (w2 : CameI w a2 n kds) :
    Calls Trym.prog 7 #[v, .slice a1 n c1, .slice a2 n c2, .float .f64 f, .float .f64 t] w fun e w' => e = .returned (.bool true) ∧ Below w.heap.size w w' := by
  obtain ⟨r, hr⟩ : ∃ r, r = scTill mo ats kds n f t := ⟨_, rfl⟩
  obtain ⟨u, hu⟩ : ∃ u, u = till mo f t := ⟨_, rfl⟩
  have sag : Fo.sameF (scTill mo ats kds n f r) r = true := by rw [hr]; exact again_same mo ats kds n f t
  have slt := from_lt mo ats kds n f t
  have sle := le_spread mo ats kds n f t
  have ssp := spread_le mo f t
  have snl := not_lt_same mo ats kds n f t
  rw [← hr] at slt sle snl
  rw [← hu] at sle ssp
  have HR := hide hr
  have HU := hide hu
  have H1 := hide slt
  have H2 := hide sle
  have H3 := hide ssp
  have H4 := hide snl
  have H5 := hide sag
  clear hr hu slt sle ssp snl sag
  go_enter Trym.func7, Trym.ntmps7
  go_wp2_with fail
  refine (bytes18_yes _ _ _ n n c1 c2 f t _ (by omega)).mono ?_
  rintro e w' ⟨rfl, rfl⟩
  go_wp2_with fail
  refine (copyptr_adr v mo _ h).mono ?_
  rintro e x1 ⟨va, rfl, hm, b1⟩
  have w1' := w1.below b1
  have w2' := w2.below b1
  clear h w1 w2
  go_wp2_with fail
  refine (copyf_any a1 n c1 ats _ hn w1').mono ?_
  rintro e x2 ⟨s1, k1, rfl, r1, b2⟩
  have w2'' := w2'.below b2
  have hm2 := hm.below b2
  have B2 := bstep b1 (Nat.le_refl _) b2
  clear w1' w2' hm b1 b2
  go_wp2_with fail
  refine (copyi_any a2 n c2 kds _ hn w2'').mono ?_
  rintro e x3 ⟨s2, k2, rfl, r2, b3⟩
  have r1' := r1.below b3
  have hm3 := hm2.below b3
  have B3 := bstep B2 (Nat.le_refl _) b3
  clear w2'' hm2 r1 B2 b3
  go_wp2_with fail
  refine (scen_any va s1 s2 k1 k2 n ats kds _ hn r1' r2).mono ?_
  rintro e x4 ⟨g, rfl, he, b4⟩
  have hm4 := hm3.below b4
  have B4 := bstep B3 (Nat.le_refl _) b4
  have S := sc_new x4 va g n mo ats kds hm4 he
  have B5 := bstep B4 (Nat.le_refl _) (below_new x4 (.cells (scCells va (.slice (some ⟨g, 0, none⟩) n n)) 46))
  have HS := hide S
  have HB := hide B5
  clear hm3 r1' r2 B3 b4 hm4 B4 S B5 he
  unfold scCells at *
  go_wp2_with fail
  refine (zzscuntil_any _ mo n ats kds f t _ hn HS.out).mono ?_
  rintro e x5 ⟨he, b5⟩
  rw [← HR.out] at he
  subst he
  have S2 := HS.out.below b5
  have B6 := bstep HB.out (Nat.le_refl _) b5
  clear HS HB b5
  obtain ⟨y0, ⟨y1, y2, y3⟩, y4⟩ := S2
  have HS := hide (show ScIs x5 _ mo n ats kds from ⟨y0, ⟨y1, y2, y3⟩, y4⟩)
  have HB := hide B6
  have HY := hide y2
  have HM := hide y3
  clear y0 y2 y3 y4 B6
  go_wp2_with fail
  refine (zzuntil_any _ 5 y1 mo f t _ HY.out HM.out).mono ?_
  rintro e x6 ⟨he, rfl⟩
  rw [← HU.out] at he
  subst he
  go_wp2_with fail
  refine (zzscuntil_any _ mo n ats kds f r _ hn HS.out).mono ?_
  rintro e x7 ⟨rfl, b7⟩
  have B7 := bstep HB.out (Nat.le_refl _) b7
  have HBB := hide B7
  clear HS HB HY HM b7 B7
  go_wp2_with fail
  refine (samef_any _ _ _).mono ?_
  rintro e x8 ⟨he, rfl⟩
  rw [H5.out] at he
  subst he
  cases q : (FloatKind.f64.format.order f t == some .lt)
  · have q' : ¬ Fo.ltB f t = true := by unfold Fo.ltB; rw [q]; exact Bool.false_ne_true
    have z := H4.out q'
    have HZ := hide z
    clear z q' H1 H2 H3 H4 H5
    go_wp2_with fail
    refine (samef_any _ _ _).mono ?_
    rintro e x9 ⟨he, rfl⟩
    rw [HZ.out] at he
    subst he
    go_wp2_with fail
    go_ret
    exact ⟨rfl, HBB.out⟩
  · have z1 : (FloatKind.f64.format.order f r == some .lt) = true := H1.out q
    have z2 : (FloatKind.f64.format.order r u == some .lt || FloatKind.f64.format.order r u == some .eq) = true := H2.out q
    have z3 : (FloatKind.f64.format.order u t == some .lt || FloatKind.f64.format.order u t == some .eq) = true := H3.out q
    clear H1 H2 H3 H4 H5
    go_wp2_with fail
    go_ret
    exact ⟨rfl, HBB.out⟩

theorem settles_any (v : Value) (mo : Option Nat) (a1 a2 : Option Addr) (l1 l2 c1 c2 f t : Nat) (ats : List Nat) (kds : List Int) (w : World) (h : Came w v mo) (w1 : CameF w a1 l1 ats) (w2 : CameI w a2 l2 kds) :
    Calls Trym.prog 7 #[v, .slice a1 l1 c1, .slice a2 l2 c2, .float .f64 f, .float .f64 t] w fun e w' => e = .returned (.bool true) ∧ Below w.heap.size w w' := by
  by_cases he : 1048576 < l1 + l2 ∨ 65536 < l1 ∨ 65536 < l2 ∨ l1 ≠ l2
  · exact settles_early v a1 a2 l1 l2 c1 c2 f t w he
  · obtain rfl : l1 = l2 := by omega
    exact settles_main v mo a1 a2 l1 c1 c2 f t ats kds w (by omega) h w1 w2
end Go.Proofs.Qxb6601926aMods
