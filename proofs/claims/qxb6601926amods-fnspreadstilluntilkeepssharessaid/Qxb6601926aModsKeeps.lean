/-
  The walk of FnSpreadStillUntilKeepsShares.
-/
import Derived.Test.Qxb6601926aModsMirror
namespace Go.Proofs.Qxb6601926aMods
open Go.RowKit
attribute [local go_sem] run_store_float

theorem copyptr_addr (v : Value) (mo : Option Nat) (w : World) (h : Came w v mo) :
    Calls Trym.prog 8 #[v] w fun e w' => ∃ va, e = .returned (.pointer va) ∧ Mom w' (.pointer va) mo ∧ Below w.heap.size w w' := by
  refine (copyptr_any v mo w h).mono ?_
  rintro e w' ⟨v', he, hm, hb⟩
  have hm' := hm
  rcases hm with ⟨_, rfl⟩ | ⟨c, b, _, rfl, _, _⟩
  · exact ⟨none, he, hm', hb⟩
  · exact ⟨some ⟨b, 0, none⟩, he, hm', hb⟩

/-! ### The plain law -/
theorem keeps_moved {mo : Option Nat} {f to u : Nat} (h1 : Fo.leB f u = true) (h2 : Fo.ltB u (till mo f to) = true) : moved mo f = moved mo u := by
  cases mo with
  | none => rfl
  | some c =>
    show Fo.geB f c = Fo.geB u c
    rw [Bool.eq_iff_iff, Fo.geB_iff, Fo.geB_iff]
    constructor
    · exact fun h => Fo.le_trans h h1
    · intro h
      by_cases k : Fo.ltB f c = true
      · exfalso
        unfold till at h2
        simp only at h2
        by_cases k2 : Fo.ltB c to = true
        · rw [if_pos ⟨k, k2⟩] at h2
          exact Fo.lt_irrefl u (Fo.lt_of_lt_le h2 h)
        · rw [if_neg (fun x => k2 x.2)] at h2
          exact k2 (Fo.lt_of_le_lt h h2)
      · exact Fo.le_of_not_lt (Fo.le_left h1) (Fo.le_left h) k
theorem keeps_share {mo : Option Nat} {f u : Nat} (e : moved mo f = moved mo u) (kind hh : Int) (share n h : Nat) : shareC kind hh share mo f n h = shareC kind hh share mo u n h := by
  unfold shareC; rw [e]

set_option maxHeartbeats 400000 in
theorem keeps_early (kind hh : Int) (share : Nat) (v : Value) (n : Int) (f to u : Nat) (w : World) (h : n < 0 ∨ 65536 < n) :
    Calls Trym.prog 4 #[.int .i64 kind, .int .i64 hh, .float .f64 share, v, .int .i64 n, .float .f64 f, .float .f64 to, .float .f64 u] w fun e w' => e = .returned (.bool true) ∧ Below w.heap.size w w' := by
  by_cases h1 : n < 0
  · clear h
    go_enter Trym.func4, Trym.ntmps4
    go_wp2_with fail
    go_ret
    exact ⟨rfl, Below.refl _ _⟩
  · have h2 : 65536 < n := by omega
    clear h
    go_enter Trym.func4, Trym.ntmps4
    go_wp2_with fail
    go_ret
    exact ⟨rfl, Below.refl _ _⟩

set_option maxHeartbeats 3200000 in
theorem keeps_main (kind hh : Int) (share : Nat) (v : Value) (mo : Option Nat) (n f to u : Nat) (w : World) (hn : n ≤ 65536) (h : Came w v mo) :
    Calls Trym.prog 4 #[.int .i64 kind, .int .i64 hh, .float .f64 share, v, .int .i64 n, .float .f64 f, .float .f64 to, .float .f64 u] w fun e w' => e = .returned (.bool true) ∧ Below w.heap.size w w' := by
  have q1 : decide ((n : Int) < 0) = false := by simp
  have q2 : decide (65536 < (n : Int)) = false := by simp; omega
  have K := hide (@keeps_moved mo f to u)
  obtain ⟨en, hen⟩ : ∃ en, en = till mo f to := ⟨_, rfl⟩
  rw [← hen] at K
  have HE := hide hen
  clear hen
  go_enter Trym.func4, Trym.ntmps4
  go_wp2_with fail
  refine (copyptr_addr v mo _ h).mono ?_
  rintro e w' ⟨va, rfl, hm, b0⟩
  have HM := hide hm
  clear hm h
  go_wp2_with fail
  refine (spreadof_any kind hh share _ _).mono ?_
  rintro e w1 ⟨rfl, o1, rfl⟩
  go_wp2_with fail
  have S1 := sp_new (w'.alloc (.cells o1 27)) kind hh share va mo (HM.out.below (below_alloc _ _))
  rw [World.size_alloc] at S1
  have Bw := bstep b0 (Nat.le_refl _) (bstep (below_alloc w' (.cells o1 27)) (Nat.le_refl _) (below_alloc _ (.cells #[.int .i64 kind, .int .i64 hh, .float .f64 share, .pointer va] 27)))
  obtain ⟨pv, hpv, hmm⟩ := S1.2.2.2.2
  refine (zzuntil_any _ 0 pv mo f to _ hpv hmm).mono ?_
  rintro e w2 ⟨he, rfl⟩
  rw [← HE.out] at he
  subst he
  clear hpv hmm HM b0
  cases a : (FloatKind.f64.format.order f u == some .lt || FloatKind.f64.format.order f u == some .eq)
  · clear S1
    go_wp2_with fail
    go_ret
    exact ⟨rfl, Bw⟩
  cases b : (FloatKind.f64.format.order u en == some .lt)
  · clear S1
    go_wp2_with fail
    go_ret
    exact ⟨rfl, Bw⟩
  have hmv := K.out a b
  have hcl := keeps_share hmv kind hh share n
  have HC := hide hcl
  clear hcl hmv K
  go_wp2_with fail
  refine (zzshares_ex _ 0 n f kind hh share mo _ hn S1).mono ?_
  rintro e w3 ⟨g1, rfl, F1, b3⟩
  have S2 := S1.below b3
  have B3 := bstep Bw (Nat.le_refl _) b3
  clear S1 Bw b3
  go_wp2_with fail
  refine (zzshares_ex _ 0 n u kind hh share mo _ hn S2).mono ?_
  rintro e w4 ⟨g2, rfl, F2, b4⟩
  have F1' := F1.below b4
  have BB := bstep B3 (Nat.le_refl _) b4
  clear F1 S2 b4 B3
  go_wp2_with fail
  go_loopw [21] (fun i wr => ∃ k : Nat, k ≤ n ∧ i = .int .i64 k ∧ Floats wr g1 n (shareC kind hh share mo f n) ∧ Floats wr g2 n (shareC kind hh share mo u n) ∧ Below w.heap.size w wr) (fun i _ => n - (intOf i).toNat)
  case atStart => exact ⟨0, Nat.zero_le _, rfl, F1', F2, BB⟩
  case round =>
    clear F1' F2 BB
    obtain ⟨k, hkn, rfl, F1, F2, BB⟩ := hrel
    by_cases hlt : k < n
    · obtain ⟨r1, c1, l1⟩ := F1.2 k hlt
      obtain ⟨r2, c2, l2⟩ := F2.2 k hlt
      have hs : Fo.sameF r1 r2 = true := (HC.out k ▸ l1).same l2
      have HF1 := hide F1
      have HF2 := hide F2
      have HBB := hide BB
      clear l1 l2 F1 F2 BB
      go_wp2
      go_quiet ((go_at_call 11; exact Calls.quiet_of_same (samef_yes _ _ _ hs)))
      go_wp2
      go_roundw
      case rel => exact ⟨k + 1, by omega, by go_num, HF1.out.below (below_drewN (Below.refl _ _) _), HF2.out.below (below_drewN (Below.refl _ _) _), below_drewN HBB.out _⟩
      case measure => simp [intOf]; omega
    · have HBB := hide BB
      clear F1 F2 BB
      go_wp2
      go_ret
      exact ⟨rfl, HBB.out⟩

theorem keeps_any (kind hh : Int) (share : Nat) (v : Value) (mo : Option Nat) (n : Int) (f to u : Nat) (w : World) (h : Came w v mo) :
    Calls Trym.prog 4 #[.int .i64 kind, .int .i64 hh, .float .f64 share, v, .int .i64 n, .float .f64 f, .float .f64 to, .float .f64 u] w fun e w' => e = .returned (.bool true) ∧ Below w.heap.size w w' := by
  by_cases he : n < 0 ∨ 65536 < n
  · exact keeps_early kind hh share v n f to u w he
  · obtain ⟨m, rfl⟩ := Int.eq_ofNat_of_zero_le (show 0 ≤ n by omega)
    exact keeps_main kind hh share v mo m f to u w (by omega) h
end Go.Proofs.Qxb6601926aMods
