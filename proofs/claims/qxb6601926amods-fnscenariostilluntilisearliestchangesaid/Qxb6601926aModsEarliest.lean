/-
  The walk of FnScenarioStillUntilIsEarliestChange.
-/
import Derived.Test.Qxb6601926aModsHeads
namespace Go.Proofs.Qxb6601926aMods
open Go.RowKit
attribute [local go_sem] run_store_float

theorem CopI.below {w w' : World} {s : Option Addr} {k n : Nat} {zs : List Int} (h : CopI w s k n zs) (hb : Below w.heap.size w w') : CopI w' s k n zs := by
  rcases h with h | ⟨h0, h1, g, h2, h3⟩
  · exact .inl h
  · exact .inr ⟨h0, h1, g, h2, h3.below hb⟩
theorem stepB_take {f t : Nat} {s : Nat × Bool} {a : Nat} {p : Prop} [Decidable p] (h : p ∧ Fo.ltB f a = true ∧ Fo.ltB a t = true ∧ (s.2 = false ∨ Fo.ltB a s.1 = true)) : stepB f t s a p = (a, true) := if_pos h
theorem stepB_leave {f t : Nat} {s : Nat × Bool} {a : Nat} {p : Prop} [Decidable p] (h : ¬ (p ∧ Fo.ltB f a = true ∧ Fo.ltB a t = true ∧ (s.2 = false ∨ Fo.ltB a s.1 = true))) : stepB f t s a p = s := if_neg h
theorem bk_step (f t n p : Nat) (ats : List Nat) (kds : List Int) (h : p < n) : bk f t n ats kds (n - p) = stepB f t (bk f t n ats kds (n - (p + 1))) (ats.getD p 0) (kds.getD p 0 = 3) := by
  have e : n - p = n - (p + 1) + 1 := by omega
  have i : n - 1 - (n - (p + 1)) = p := by omega
  rw [e]
  show stepB f t (bk f t n ats kds (n - (p + 1))) (ats.getD (n - 1 - (n - (p + 1))) 0) (kds.getD (n - 1 - (n - (p + 1))) 0 = 3) = _
  simp only [i]
theorem notB {x : Bool} (h : x = false) : ¬ x = true := by rw [h]; exact Bool.false_ne_true

set_option maxHeartbeats 6400000 in
theorem earliest_zero_none (v : Value) (a1 a2 : Option Addr) (c1 c2 f t : Nat) (ats : List Nat) (kds : List Int) (w : World) (h : Came w v none) (w1 : CameF w a1 0 ats) (w2 : CameI w a2 0 kds) :
    Calls Trym.prog 6 #[v, .slice a1 0 c1, .slice a2 0 c2, .float .f64 f, .float .f64 t] w fun e w' => e = .returned (.bool true) ∧ Below w.heap.size w w' := by
  obtain ⟨r, hr⟩ : ∃ r, r = scTill none ats kds 0 f t := ⟨_, rfl⟩
  have sea : Fo.sameF r (best f t 0 ats kds none) = true := by rw [hr]; exact earliest none ats kds 0 f t
  have HR := hide hr
  have HE := hide sea
  clear hr sea
  go_enter Trym.func6, Trym.ntmps6
  go_wp2_with fail
  refine (bytes13_yes _ _ _ 0 0 c1 c2 f t _ (by omega)).mono ?_
  rintro e w' ⟨rfl, rfl⟩
  go_wp2_with fail
  refine (copyptr_adr v _ _ h).mono ?_
  rintro e x1 ⟨va, rfl, hm, b1⟩
  have w1' := w1.below b1
  have w2' := w2.below b1
  clear h w1 w2
  go_wp2_with fail
  refine (copyf_any a1 0 c1 ats _ (by omega) w1').mono ?_
  rintro e x2 ⟨s1, k1, rfl, r1, b2⟩
  have w2'' := w2'.below b2
  have hm2 := hm.below b2
  have B2 := bstep b1 (Nat.le_refl _) b2
  clear w1' w2' hm b1 b2
  go_wp2_with fail
  refine (copyi_any a2 0 c2 kds _ (by omega) w2'').mono ?_
  rintro e x3 ⟨s2, k2, rfl, r2, b3⟩
  have r1' := r1.below b3
  have hm3 := hm2.below b3
  have B3 := bstep B2 (Nat.le_refl _) b3
  clear w2'' hm2 r1 B2 b3
  go_wp2_with fail
  refine (scen_any va s1 s2 k1 k2 0 ats kds _ (by omega) r1' r2).mono ?_
  rintro e x4 ⟨g, rfl, he, b4⟩
  have hm4 := hm3.below b4
  have r14 := r1'.below b4
  have r24 := CopI.below r2 b4
  have B4 := bstep B3 (Nat.le_refl _) b4
  have bn := below_new x4 (.cells (scCells va (.slice (some ⟨g, 0, none⟩) 0 0)) 46)
  have S := sc_new x4 va g 0 _ ats kds hm4 he
  have B5 := bstep B4 (Nat.le_refl _) bn
  have hm5 := hm4.below bn
  have r15 := r14.below bn
  have r25 := CopI.below r24 bn
  have HS := hide S
  have HB0 := hide B5
  have HM0 := hide hm5
  have HR1 := hide r15
  have HR2 := hide r25
  clear hm3 r1' r2 B3 b4 hm4 B4 S B5 he bn hm5 r14 r24 r15 r25
  unfold scCells at *
  go_wp2_with fail
  refine (zzscuntil_any _ _ 0 ats kds f t _ (by omega) HS.out).mono ?_
  rintro e x5 ⟨he, b5⟩
  rw [← HR.out] at he
  subst he
  have HB := hide (bstep HB0.out (Nat.le_refl _) b5)
  have hm6 := HM0.out.below b5
  have r16 := HR1.out.below b5
  have r26 := CopI.below HR2.out b5
  clear HS HB0 HM0 HR1 HR2 b5 HR
  rcases hm6 with ⟨_, hva⟩ | ⟨c', bm, hcc, _⟩
  case inr => cases hcc
  cases hva
  clear r16 r26
  have HK : Hid (bk f t 0 ats kds 0 = (t, false)) := hide rfl
  go_wp2_with fail
  refine wp_loop_rounds 1 ?_
  rw [rounds_succ]
  have HF : Hid (Fo.sameF r t = true) := hide (by have := HE.out; unfold best at this; simp only at this; rw [HK.out] at this; exact this)
  go_wp2_with fail
  refine (samef_any _ _ _).mono ?_
  rintro e x9 ⟨he, rfl⟩
  rw [HF.out] at he
  subst he
  go_wp2_with fail
  go_ret
  exact ⟨rfl, HB.out⟩

set_option maxHeartbeats 6400000 in
theorem earliest_zero_some (v : Value) (c : Nat) (a1 a2 : Option Addr) (c1 c2 f t : Nat) (ats : List Nat) (kds : List Int) (w : World) (h : Came w v (some c)) (w1 : CameF w a1 0 ats) (w2 : CameI w a2 0 kds) :
    Calls Trym.prog 6 #[v, .slice a1 0 c1, .slice a2 0 c2, .float .f64 f, .float .f64 t] w fun e w' => e = .returned (.bool true) ∧ Below w.heap.size w w' := by
  obtain ⟨r, hr⟩ : ∃ r, r = scTill (some c) ats kds 0 f t := ⟨_, rfl⟩
  have sea : Fo.sameF r (best f t 0 ats kds (some c)) = true := by rw [hr]; exact earliest (some c) ats kds 0 f t
  have HR := hide hr
  have HE := hide sea
  clear hr sea
  go_enter Trym.func6, Trym.ntmps6
  go_wp2_with fail
  refine (bytes13_yes _ _ _ 0 0 c1 c2 f t _ (by omega)).mono ?_
  rintro e w' ⟨rfl, rfl⟩
  go_wp2_with fail
  refine (copyptr_adr v _ _ h).mono ?_
  rintro e x1 ⟨va, rfl, hm, b1⟩
  have w1' := w1.below b1
  have w2' := w2.below b1
  clear h w1 w2
  go_wp2_with fail
  refine (copyf_any a1 0 c1 ats _ (by omega) w1').mono ?_
  rintro e x2 ⟨s1, k1, rfl, r1, b2⟩
  have w2'' := w2'.below b2
  have hm2 := hm.below b2
  have B2 := bstep b1 (Nat.le_refl _) b2
  clear w1' w2' hm b1 b2
  go_wp2_with fail
  refine (copyi_any a2 0 c2 kds _ (by omega) w2'').mono ?_
  rintro e x3 ⟨s2, k2, rfl, r2, b3⟩
  have r1' := r1.below b3
  have hm3 := hm2.below b3
  have B3 := bstep B2 (Nat.le_refl _) b3
  clear w2'' hm2 r1 B2 b3
  go_wp2_with fail
  refine (scen_any va s1 s2 k1 k2 0 ats kds _ (by omega) r1' r2).mono ?_
  rintro e x4 ⟨g, rfl, he, b4⟩
  have hm4 := hm3.below b4
  have r14 := r1'.below b4
  have r24 := CopI.below r2 b4
  have B4 := bstep B3 (Nat.le_refl _) b4
  have bn := below_new x4 (.cells (scCells va (.slice (some ⟨g, 0, none⟩) 0 0)) 46)
  have S := sc_new x4 va g 0 _ ats kds hm4 he
  have B5 := bstep B4 (Nat.le_refl _) bn
  have hm5 := hm4.below bn
  have r15 := r14.below bn
  have r25 := CopI.below r24 bn
  have HS := hide S
  have HB0 := hide B5
  have HM0 := hide hm5
  have HR1 := hide r15
  have HR2 := hide r25
  clear hm3 r1' r2 B3 b4 hm4 B4 S B5 he bn hm5 r14 r24 r15 r25
  unfold scCells at *
  go_wp2_with fail
  refine (zzscuntil_any _ _ 0 ats kds f t _ (by omega) HS.out).mono ?_
  rintro e x5 ⟨he, b5⟩
  rw [← HR.out] at he
  subst he
  have HB := hide (bstep HB0.out (Nat.le_refl _) b5)
  have hm6 := HM0.out.below b5
  have r16 := HR1.out.below b5
  have r26 := CopI.below HR2.out b5
  clear HS HB0 HM0 HR1 HR2 b5 HR
  rcases hm6 with ⟨hno, _⟩ | ⟨c', bm, hcc, hva, hbm, hmc⟩
  · cases hno
  cases hcc
  cases hva
  clear hbm
  clear r16 r26
  have HK : Hid (bk f t 0 ats kds 0 = (t, false)) := hide rfl
  go_wp2_with fail
  refine wp_loop_rounds 1 ?_
  rw [rounds_succ]
  have HE2 : Hid (Fo.sameF r (stepB f t (t, false) c True).1 = true) := hide (by have := HE.out; unfold best at this; simp only at this; rw [HK.out] at this; exact this)
  clear HE HK
  cases x : (FloatKind.f64.format.order f c == some .lt)
  · have HF : Hid (Fo.sameF r t = true) := hide (by have := HE2.out; rw [stepB_leave (fun k => notB x k.2.1)] at this; exact this)
    clear HE2
    go_wp2_with fail
    refine (samef_any _ _ _).mono ?_
    rintro e x9 ⟨he, rfl⟩
    rw [HF.out] at he
    subst he
    go_wp2_with fail
    go_ret
    exact ⟨rfl, HB.out⟩
  cases y : (FloatKind.f64.format.order c t == some .lt)
  · have HF : Hid (Fo.sameF r t = true) := hide (by have := HE2.out; rw [stepB_leave (fun k => notB y k.2.2.1)] at this; exact this)
    clear HE2
    go_wp2_with fail
    refine (samef_any _ _ _).mono ?_
    rintro e x9 ⟨he, rfl⟩
    rw [HF.out] at he
    subst he
    go_wp2_with fail
    go_ret
    exact ⟨rfl, HB.out⟩
  · have HF : Hid (Fo.sameF r c = true) := hide (by have := HE2.out; rw [stepB_take ⟨trivial, x, y, .inl rfl⟩] at this; exact this)
    clear HE2
    go_wp2_with fail
    refine (samef_any _ _ _).mono ?_
    rintro e x9 ⟨he, rfl⟩
    rw [HF.out] at he
    subst he
    go_wp2_with fail
    go_ret
    exact ⟨rfl, HB.out⟩

set_option maxHeartbeats 6400000 in
theorem earliest_pos_none (v : Value) (a1 a2 : Option Addr) (n c1 c2 f t : Nat) (ats : List Nat) (kds : List Int) (w : World) (hn : n ≤ 65536) (hn0 : 0 < n) (h : Came w v none) (w1 : CameF w a1 n ats) (w2 : CameI w a2 n kds) :
    Calls Trym.prog 6 #[v, .slice a1 n c1, .slice a2 n c2, .float .f64 f, .float .f64 t] w fun e w' => e = .returned (.bool true) ∧ Below w.heap.size w w' := by
  obtain ⟨r, hr⟩ : ∃ r, r = scTill none ats kds n f t := ⟨_, rfl⟩
  have sea : Fo.sameF r (best f t n ats kds none) = true := by rw [hr]; exact earliest none ats kds n f t
  have HR := hide hr
  have HE := hide sea
  clear hr sea
  go_enter Trym.func6, Trym.ntmps6
  go_wp2_with fail
  refine (bytes13_yes _ _ _ n n c1 c2 f t _ (by omega)).mono ?_
  rintro e w' ⟨rfl, rfl⟩
  go_wp2_with fail
  refine (copyptr_adr v _ _ h).mono ?_
  rintro e x1 ⟨va, rfl, hm, b1⟩
  have w1' := w1.below b1
  have w2' := w2.below b1
  clear h w1 w2
  go_wp2_with fail
  refine (copyf_any a1 n c1 ats _ (by omega) w1').mono ?_
  rintro e x2 ⟨s1, k1, rfl, r1, b2⟩
  have w2'' := w2'.below b2
  have hm2 := hm.below b2
  have B2 := bstep b1 (Nat.le_refl _) b2
  clear w1' w2' hm b1 b2
  go_wp2_with fail
  refine (copyi_any a2 n c2 kds _ (by omega) w2'').mono ?_
  rintro e x3 ⟨s2, k2, rfl, r2, b3⟩
  have r1' := r1.below b3
  have hm3 := hm2.below b3
  have B3 := bstep B2 (Nat.le_refl _) b3
  clear w2'' hm2 r1 B2 b3
  go_wp2_with fail
  refine (scen_any va s1 s2 k1 k2 n ats kds _ (by omega) r1' r2).mono ?_
  rintro e x4 ⟨g, rfl, he, b4⟩
  have hm4 := hm3.below b4
  have r14 := r1'.below b4
  have r24 := CopI.below r2 b4
  have B4 := bstep B3 (Nat.le_refl _) b4
  have bn := below_new x4 (.cells (scCells va (.slice (some ⟨g, 0, none⟩) n n)) 46)
  have S := sc_new x4 va g n _ ats kds hm4 he
  have B5 := bstep B4 (Nat.le_refl _) bn
  have hm5 := hm4.below bn
  have r15 := r14.below bn
  have r25 := CopI.below r24 bn
  have HS := hide S
  have HB0 := hide B5
  have HM0 := hide hm5
  have HR1 := hide r15
  have HR2 := hide r25
  clear hm3 r1' r2 B3 b4 hm4 B4 S B5 he bn hm5 r14 r24 r15 r25
  unfold scCells at *
  go_wp2_with fail
  refine (zzscuntil_any _ _ n ats kds f t _ (by omega) HS.out).mono ?_
  rintro e x5 ⟨he, b5⟩
  rw [← HR.out] at he
  subst he
  have HB := hide (bstep HB0.out (Nat.le_refl _) b5)
  have hm6 := HM0.out.below b5
  have r16 := HR1.out.below b5
  have r26 := CopI.below HR2.out b5
  clear HS HB0 HM0 HR1 HR2 b5 HR
  rcases hm6 with ⟨_, hva⟩ | ⟨c', bm, hcc, _⟩
  case inr => cases hcc
  cases hva
  rcases r16 with ⟨h0, _⟩ | ⟨_, hk1, g1, rfl, q1⟩
  · omega
  obtain rfl : n = k1 := hk1.symm
  rcases r26 with ⟨h0, _⟩ | ⟨_, hk2, g2, rfl, q2⟩
  · omega
  obtain rfl : n = k2 := hk2.symm
  clear hk1 hk2
  have HQ1 := hide q1
  have HQ2 := hide q2
  clear q1 q2
  go_wp2_with fail
  go_loop [13, 14, 15] (fun fd bs i => ∃ m : Nat, m ≤ n ∧ i = .int .i64 ((m : Int) - 1) ∧ fd = .bool (bk f t n ats kds (n - m)).2 ∧ bs = .float .f64 (bk f t n ats kds (n - m)).1) (fun _ _ i => (intOf i + 1).toNat)
  case atStart => exact ⟨n, Nat.le_refl _, rfl, by rw [Nat.sub_self]; rfl, by rw [Nat.sub_self]; rfl⟩
  case round =>
    obtain ⟨m, hmn, rfl, rfl, rfl⟩ := hrel
    cases m with
    | zero =>
      rw [Nat.sub_zero]
      obtain ⟨bb, hbb⟩ : ∃ bb, bb = (bk f t n ats kds n).1 := ⟨_, rfl⟩
      obtain ⟨fb, hfb⟩ : ∃ fb, fb = (bk f t n ats kds n).2 := ⟨_, rfl⟩
      have HK : Hid (bk f t n ats kds n = (bb, fb)) := hide (by rw [hbb, hfb])
      rw [← hbb, ← hfb]
      clear hbb hfb HQ1 HQ2
      have HF : Hid (Fo.sameF r bb = true) := hide (by have := HE.out; unfold best at this; simp only at this; rw [HK.out] at this; exact this)
      go_wp2_with fail
      refine (samef_any _ _ _).mono ?_
      rintro e x9 ⟨he, rfl⟩
      rw [HF.out] at he
      subst he
      go_wp2_with fail
      go_ret
      exact ⟨rfl, HB.out⟩
    | succ p =>
      obtain ⟨bb, hbb⟩ : ∃ bb, bb = (bk f t n ats kds (n - (p + 1))).1 := ⟨_, rfl⟩
      obtain ⟨fb, hfb⟩ : ∃ fb, fb = (bk f t n ats kds (n - (p + 1))).2 := ⟨_, rfl⟩
      obtain ⟨a, ha⟩ : ∃ a, a = ats.getD p 0 := ⟨_, rfl⟩
      obtain ⟨kd, hkd⟩ : ∃ kd, kd = kds.getD p 0 := ⟨_, rfl⟩
      have HS : Hid (bk f t n ats kds (n - p) = stepB f t (bb, fb) a (kd = 3)) := hide (by rw [bk_step f t n p ats kds (by omega), hbb, hfb, ha, hkd])
      have d1 := HQ1.out.2.2 p (by omega)
      have d2 := HQ2.out.2.2 p (by omega)
      rw [← ha] at d1
      rw [← hkd] at d2
      rw [← hbb, ← hfb]
      rw [show ((p + 1 : Nat) : Int) - 1 = (p : Int) from by omega]
      clear hbb hfb ha hkd HQ1 HQ2
      have hpn : (p : Int) < (n : Int) := by omega
      cases u : (kd == 3)
      · have u' : ¬ kd = 3 := by simpa using u
        have HN : Hid (bk f t n ats kds (n - p) = (bb, fb)) := hide (HS.out.trans (stepB_leave (fun k => u' k.1)))
        clear HS
        go_wp2
        go_round
        case rel => exact ⟨p, by omega, rfl, by rw [HN.out], by rw [HN.out]⟩
        case measure => simp [intOf]
      have u' : kd = 3 := by simpa using u
      have HU := hide u'
      clear u'
      cases x : (FloatKind.f64.format.order f a == some .lt)
      · have HN : Hid (bk f t n ats kds (n - p) = (bb, fb)) := hide (HS.out.trans (stepB_leave (fun k => notB x k.2.1)))
        clear HS
        go_wp2
        go_round
        case rel => exact ⟨p, by omega, rfl, by rw [HN.out], by rw [HN.out]⟩
        case measure => simp [intOf]
      cases y : (FloatKind.f64.format.order a t == some .lt)
      · have HN : Hid (bk f t n ats kds (n - p) = (bb, fb)) := hide (HS.out.trans (stepB_leave (fun k => notB y k.2.2.1)))
        clear HS
        go_wp2
        go_round
        case rel => exact ⟨p, by omega, rfl, by rw [HN.out], by rw [HN.out]⟩
        case measure => simp [intOf]
      cases fb
      · have HN : Hid (bk f t n ats kds (n - p) = (a, true)) := hide (HS.out.trans (stepB_take ⟨HU.out, x, y, .inl rfl⟩))
        clear HS
        go_wp2
        go_round
        case rel => exact ⟨p, by omega, rfl, by rw [HN.out], by rw [HN.out]⟩
        case measure => simp [intOf]
      cases z : (FloatKind.f64.format.order a bb == some .lt)
      · have HN : Hid (bk f t n ats kds (n - p) = (bb, true)) := hide (HS.out.trans (stepB_leave (fun k => by rcases k.2.2.2 with k | k; cases k; exact notB z k)))
        clear HS
        go_wp2
        go_round
        case rel => exact ⟨p, by omega, rfl, by rw [HN.out], by rw [HN.out]⟩
        case measure => simp [intOf]
      · have HN : Hid (bk f t n ats kds (n - p) = (a, true)) := hide (HS.out.trans (stepB_take ⟨HU.out, x, y, .inr z⟩))
        clear HS
        go_wp2
        go_round
        case rel => exact ⟨p, by omega, rfl, by rw [HN.out], by rw [HN.out]⟩
        case measure => simp [intOf]

set_option maxHeartbeats 6400000 in
theorem earliest_pos_some (v : Value) (c : Nat) (a1 a2 : Option Addr) (n c1 c2 f t : Nat) (ats : List Nat) (kds : List Int) (w : World) (hn : n ≤ 65536) (hn0 : 0 < n) (h : Came w v (some c)) (w1 : CameF w a1 n ats) (w2 : CameI w a2 n kds) :
    Calls Trym.prog 6 #[v, .slice a1 n c1, .slice a2 n c2, .float .f64 f, .float .f64 t] w fun e w' => e = .returned (.bool true) ∧ Below w.heap.size w w' := by
  obtain ⟨r, hr⟩ : ∃ r, r = scTill (some c) ats kds n f t := ⟨_, rfl⟩
  have sea : Fo.sameF r (best f t n ats kds (some c)) = true := by rw [hr]; exact earliest (some c) ats kds n f t
  have HR := hide hr
  have HE := hide sea
  clear hr sea
  go_enter Trym.func6, Trym.ntmps6
  go_wp2_with fail
  refine (bytes13_yes _ _ _ n n c1 c2 f t _ (by omega)).mono ?_
  rintro e w' ⟨rfl, rfl⟩
  go_wp2_with fail
  refine (copyptr_adr v _ _ h).mono ?_
  rintro e x1 ⟨va, rfl, hm, b1⟩
  have w1' := w1.below b1
  have w2' := w2.below b1
  clear h w1 w2
  go_wp2_with fail
  refine (copyf_any a1 n c1 ats _ (by omega) w1').mono ?_
  rintro e x2 ⟨s1, k1, rfl, r1, b2⟩
  have w2'' := w2'.below b2
  have hm2 := hm.below b2
  have B2 := bstep b1 (Nat.le_refl _) b2
  clear w1' w2' hm b1 b2
  go_wp2_with fail
  refine (copyi_any a2 n c2 kds _ (by omega) w2'').mono ?_
  rintro e x3 ⟨s2, k2, rfl, r2, b3⟩
  have r1' := r1.below b3
  have hm3 := hm2.below b3
  have B3 := bstep B2 (Nat.le_refl _) b3
  clear w2'' hm2 r1 B2 b3
  go_wp2_with fail
  refine (scen_any va s1 s2 k1 k2 n ats kds _ (by omega) r1' r2).mono ?_
  rintro e x4 ⟨g, rfl, he, b4⟩
  have hm4 := hm3.below b4
  have r14 := r1'.below b4
  have r24 := CopI.below r2 b4
  have B4 := bstep B3 (Nat.le_refl _) b4
  have bn := below_new x4 (.cells (scCells va (.slice (some ⟨g, 0, none⟩) n n)) 46)
  have S := sc_new x4 va g n _ ats kds hm4 he
  have B5 := bstep B4 (Nat.le_refl _) bn
  have hm5 := hm4.below bn
  have r15 := r14.below bn
  have r25 := CopI.below r24 bn
  have HS := hide S
  have HB0 := hide B5
  have HM0 := hide hm5
  have HR1 := hide r15
  have HR2 := hide r25
  clear hm3 r1' r2 B3 b4 hm4 B4 S B5 he bn hm5 r14 r24 r15 r25
  unfold scCells at *
  go_wp2_with fail
  refine (zzscuntil_any _ _ n ats kds f t _ (by omega) HS.out).mono ?_
  rintro e x5 ⟨he, b5⟩
  rw [← HR.out] at he
  subst he
  have HB := hide (bstep HB0.out (Nat.le_refl _) b5)
  have hm6 := HM0.out.below b5
  have r16 := HR1.out.below b5
  have r26 := CopI.below HR2.out b5
  clear HS HB0 HM0 HR1 HR2 b5 HR
  rcases hm6 with ⟨hno, _⟩ | ⟨c', bm, hcc, hva, hbm, hmc⟩
  · cases hno
  cases hcc
  cases hva
  clear hbm
  rcases r16 with ⟨h0, _⟩ | ⟨_, hk1, g1, rfl, q1⟩
  · omega
  obtain rfl : n = k1 := hk1.symm
  rcases r26 with ⟨h0, _⟩ | ⟨_, hk2, g2, rfl, q2⟩
  · omega
  obtain rfl : n = k2 := hk2.symm
  clear hk1 hk2
  have HQ1 := hide q1
  have HQ2 := hide q2
  clear q1 q2
  go_wp2_with fail
  go_loop [13, 14, 15] (fun fd bs i => ∃ m : Nat, m ≤ n ∧ i = .int .i64 ((m : Int) - 1) ∧ fd = .bool (bk f t n ats kds (n - m)).2 ∧ bs = .float .f64 (bk f t n ats kds (n - m)).1) (fun _ _ i => (intOf i + 1).toNat)
  case atStart => exact ⟨n, Nat.le_refl _, rfl, by rw [Nat.sub_self]; rfl, by rw [Nat.sub_self]; rfl⟩
  case round =>
    obtain ⟨m, hmn, rfl, rfl, rfl⟩ := hrel
    cases m with
    | zero =>
      rw [Nat.sub_zero]
      obtain ⟨bb, hbb⟩ : ∃ bb, bb = (bk f t n ats kds n).1 := ⟨_, rfl⟩
      obtain ⟨fb, hfb⟩ : ∃ fb, fb = (bk f t n ats kds n).2 := ⟨_, rfl⟩
      have HK : Hid (bk f t n ats kds n = (bb, fb)) := hide (by rw [hbb, hfb])
      rw [← hbb, ← hfb]
      clear hbb hfb HQ1 HQ2
      have HE2 : Hid (Fo.sameF r (stepB f t (bb, fb) c True).1 = true) := hide (by have := HE.out; unfold best at this; simp only at this; rw [HK.out] at this; exact this)
      clear HE HK
      cases x : (FloatKind.f64.format.order f c == some .lt)
      · have HF : Hid (Fo.sameF r bb = true) := hide (by have := HE2.out; rw [stepB_leave (fun k => notB x k.2.1)] at this; exact this)
        clear HE2
        go_wp2_with fail
        refine (samef_any _ _ _).mono ?_
        rintro e x9 ⟨he, rfl⟩
        rw [HF.out] at he
        subst he
        go_wp2_with fail
        go_ret
        exact ⟨rfl, HB.out⟩
      cases y : (FloatKind.f64.format.order c t == some .lt)
      · have HF : Hid (Fo.sameF r bb = true) := hide (by have := HE2.out; rw [stepB_leave (fun k => notB y k.2.2.1)] at this; exact this)
        clear HE2
        go_wp2_with fail
        refine (samef_any _ _ _).mono ?_
        rintro e x9 ⟨he, rfl⟩
        rw [HF.out] at he
        subst he
        go_wp2_with fail
        go_ret
        exact ⟨rfl, HB.out⟩
      cases fb
      · have HF : Hid (Fo.sameF r c = true) := hide (by have := HE2.out; rw [stepB_take ⟨trivial, x, y, .inl rfl⟩] at this; exact this)
        clear HE2
        go_wp2_with fail
        refine (samef_any _ _ _).mono ?_
        rintro e x9 ⟨he, rfl⟩
        rw [HF.out] at he
        subst he
        go_wp2_with fail
        go_ret
        exact ⟨rfl, HB.out⟩
      cases z : (FloatKind.f64.format.order c bb == some .lt)
      · have HF : Hid (Fo.sameF r bb = true) := hide (by have := HE2.out; rw [stepB_leave (fun k => by rcases k.2.2.2 with k | k; cases k; exact notB z k)] at this; exact this)
        clear HE2
        go_wp2_with fail
        refine (samef_any _ _ _).mono ?_
        rintro e x9 ⟨he, rfl⟩
        rw [HF.out] at he
        subst he
        go_wp2_with fail
        go_ret
        exact ⟨rfl, HB.out⟩
      · have HF : Hid (Fo.sameF r c = true) := hide (by have := HE2.out; rw [stepB_take (s := (bb, true)) (a := c) ⟨trivial, x, y, .inr z⟩] at this; exact this)
        clear HE2
        go_wp2_with fail
        refine (samef_any _ _ _).mono ?_
        rintro e x9 ⟨he, rfl⟩
        rw [HF.out] at he
        subst he
        go_wp2_with fail
        go_ret
        exact ⟨rfl, HB.out⟩
    | succ p =>
      obtain ⟨bb, hbb⟩ : ∃ bb, bb = (bk f t n ats kds (n - (p + 1))).1 := ⟨_, rfl⟩
      obtain ⟨fb, hfb⟩ : ∃ fb, fb = (bk f t n ats kds (n - (p + 1))).2 := ⟨_, rfl⟩
      obtain ⟨a, ha⟩ : ∃ a, a = ats.getD p 0 := ⟨_, rfl⟩
      obtain ⟨kd, hkd⟩ : ∃ kd, kd = kds.getD p 0 := ⟨_, rfl⟩
      have HS : Hid (bk f t n ats kds (n - p) = stepB f t (bb, fb) a (kd = 3)) := hide (by rw [bk_step f t n p ats kds (by omega), hbb, hfb, ha, hkd])
      have d1 := HQ1.out.2.2 p (by omega)
      have d2 := HQ2.out.2.2 p (by omega)
      rw [← ha] at d1
      rw [← hkd] at d2
      rw [← hbb, ← hfb]
      rw [show ((p + 1 : Nat) : Int) - 1 = (p : Int) from by omega]
      clear hbb hfb ha hkd HQ1 HQ2
      have hpn : (p : Int) < (n : Int) := by omega
      cases u : (kd == 3)
      · have u' : ¬ kd = 3 := by simpa using u
        have HN : Hid (bk f t n ats kds (n - p) = (bb, fb)) := hide (HS.out.trans (stepB_leave (fun k => u' k.1)))
        clear HS
        go_wp2
        go_round
        case rel => exact ⟨p, by omega, rfl, by rw [HN.out], by rw [HN.out]⟩
        case measure => simp [intOf]
      have u' : kd = 3 := by simpa using u
      have HU := hide u'
      clear u'
      cases x : (FloatKind.f64.format.order f a == some .lt)
      · have HN : Hid (bk f t n ats kds (n - p) = (bb, fb)) := hide (HS.out.trans (stepB_leave (fun k => notB x k.2.1)))
        clear HS
        go_wp2
        go_round
        case rel => exact ⟨p, by omega, rfl, by rw [HN.out], by rw [HN.out]⟩
        case measure => simp [intOf]
      cases y : (FloatKind.f64.format.order a t == some .lt)
      · have HN : Hid (bk f t n ats kds (n - p) = (bb, fb)) := hide (HS.out.trans (stepB_leave (fun k => notB y k.2.2.1)))
        clear HS
        go_wp2
        go_round
        case rel => exact ⟨p, by omega, rfl, by rw [HN.out], by rw [HN.out]⟩
        case measure => simp [intOf]
      cases fb
      · have HN : Hid (bk f t n ats kds (n - p) = (a, true)) := hide (HS.out.trans (stepB_take ⟨HU.out, x, y, .inl rfl⟩))
        clear HS
        go_wp2
        go_round
        case rel => exact ⟨p, by omega, rfl, by rw [HN.out], by rw [HN.out]⟩
        case measure => simp [intOf]
      cases z : (FloatKind.f64.format.order a bb == some .lt)
      · have HN : Hid (bk f t n ats kds (n - p) = (bb, true)) := hide (HS.out.trans (stepB_leave (fun k => by rcases k.2.2.2 with k | k; cases k; exact notB z k)))
        clear HS
        go_wp2
        go_round
        case rel => exact ⟨p, by omega, rfl, by rw [HN.out], by rw [HN.out]⟩
        case measure => simp [intOf]
      · have HN : Hid (bk f t n ats kds (n - p) = (a, true)) := hide (HS.out.trans (stepB_take ⟨HU.out, x, y, .inr z⟩))
        clear HS
        go_wp2
        go_round
        case rel => exact ⟨p, by omega, rfl, by rw [HN.out], by rw [HN.out]⟩
        case measure => simp [intOf]

theorem earliest_any (v : Value) (mo : Option Nat) (a1 a2 : Option Addr) (l1 l2 c1 c2 f t : Nat) (ats : List Nat) (kds : List Int) (w : World) (h : Came w v mo) (w1 : CameF w a1 l1 ats) (w2 : CameI w a2 l2 kds) :
    Calls Trym.prog 6 #[v, .slice a1 l1 c1, .slice a2 l2 c2, .float .f64 f, .float .f64 t] w fun e w' => e = .returned (.bool true) ∧ Below w.heap.size w w' := by
  by_cases he : 1048576 < l1 + l2 ∨ 65536 < l1 ∨ 65536 < l2 ∨ l1 ≠ l2
  · exact earliest_early v a1 a2 l1 l2 c1 c2 f t w he
  · obtain rfl : l1 = l2 := by omega
    by_cases h0 : l1 = 0
    · subst h0
      cases mo with
      | none => exact earliest_zero_none v a1 a2 c1 c2 f t ats kds w h w1 w2
      | some c => exact earliest_zero_some v c a1 a2 c1 c2 f t ats kds w h w1 w2
    · cases mo with
      | none => exact earliest_pos_none v a1 a2 l1 c1 c2 f t ats kds w (by omega) (by omega) h w1 w2
      | some c => exact earliest_pos_some v c a1 a2 l1 c1 c2 f t ats kds w (by omega) (by omega) h w1 w2
end Go.Proofs.Qxb6601926aMods
