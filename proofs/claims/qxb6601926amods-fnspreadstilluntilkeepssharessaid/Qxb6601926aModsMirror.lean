/-
  The walk of FnSharesMoveMirrorsFleet.
-/
import Derived.Test.Qxb6601926aModsSpread
import Derived.BigQuiet
namespace Go.Proofs.Qxb6601926aMods
open Go.RowKit
attribute [local go_sem] run_store_float

theorem sp_new (w : World) (kind hh : Int) (share : Nat) (v : Option Addr) (mo : Option Nat) (hm : Mom w (.pointer v) mo) :
    SpIs (w.alloc (.cells #[.int .i64 kind, .int .i64 hh, .float .f64 share, .pointer v] 27)) w.heap.size 0 kind hh share mo :=
  ⟨by simp, by simp [go_sem], by simp [go_sem], by simp [go_sem], .pointer v, by simp [go_sem], hm.below ((Below.refl _ _).alloc (Nat.le_refl _) _)⟩
theorem zzshares_ex (bs os n t : Nat) (kind hh : Int) (share : Nat) (mo : Option Nat) (w : World) (hn : n ≤ 65536) (h : SpIs w bs os kind hh share mo) :
    Calls Trym.prog 10 #[.pointer (some ⟨bs, os, none⟩), .int .i64 n, .float .f64 t] w fun e w' => ∃ g, e = .returned (.slice (some ⟨g, 0, none⟩) n n) ∧ Floats w' g n (shareC kind hh share mo t n) ∧ Below w.heap.size w w' :=
  (zzshares_any bs os n t kind hh share mo w hn h).mono fun _ _ ⟨a, b, c⟩ => ⟨_, a, b, c⟩
theorem below_alloc (w : World) (o : Obj) : Below w.heap.size w (w.alloc o) := (Below.refl _ _).alloc (Nat.le_refl _) o

/-! ### The plain law: the parts behind the move are those ahead of it, read back to front. -/
theorem mirror_zone {hh : Int} {share n h : Nat} (hn : n ≤ 65536) (h1 : -1073741824 ≤ hh) (h2 : hh ≤ 9223372036854775807) (hlt : h < n) :
    zoneC (wrap64 (n - hh)) hh share n h = zoneC 0 hh share n (n - 1 - h) := by
  have e1 : wrap64 ((n : Int) - hh) = n - hh := IntWalk.wrap64_in _ ⟨by omega, by omega⟩
  have e2 : wrap64 ((n : Int) - hh + hh) = n := by rw [IntWalk.wrap64_in _ ⟨by omega, by omega⟩]; omega
  have e3 : wrap64 (0 + hh) = hh := by rw [IntWalk.wrap64_in _ ⟨by omega, by omega⟩]; omega
  unfold zoneC
  rw [e1, e2, e3]
  by_cases c : (n : Int) - hh ≤ h
  · rw [if_pos ⟨c, by omega⟩, if_pos ⟨by omega, by omega⟩]
  · rw [if_neg (fun k => c k.1), if_neg (fun k => by omega)]
theorem mirror_share {kind hh : Int} {share n h t : Nat} {mo : Option Nat} (hn : n ≤ 65536) (h1 : -1073741824 ≤ hh) (h2 : hh ≤ 9223372036854775807) (hlt : h < n) (hm : moved mo t = true) :
    shareC kind hh share mo t n h = shareC kind hh share none t n (n - 1 - h) := by
  unfold shareC
  by_cases c : kind = 1
  · rw [if_pos c, if_pos c]
  · rw [if_neg c, if_neg c, if_pos hm, if_neg (by simp [moved])]; exact mirror_zone hn h1 h2 hlt
theorem stay_share {kind hh : Int} {share n h t : Nat} {mo : Option Nat} (hm : ¬ moved mo t = true) :
    shareC kind hh share mo t n h = shareC kind hh share none t n h := by
  unfold shareC
  by_cases c : kind = 1
  · rw [if_pos c, if_pos c]
  · rw [if_neg c, if_neg c, if_neg hm, if_neg (by simp [moved])]

set_option maxHeartbeats 400000 in
theorem mirror_early (kind hh : Int) (share : Nat) (v : Value) (n : Int) (t : Nat) (w : World) (h : n < 0 ∨ 65536 < n ∨ hh < -1073741824) :
    Calls Trym.prog 3 #[.int .i64 kind, .int .i64 hh, .float .f64 share, v, .int .i64 n, .float .f64 t] w fun e w' => e = .returned (.bool true) ∧ Below w.heap.size w w' := by
  by_cases h1 : n < 0
  · clear h
    go_enter Trym.func3, Trym.ntmps3
    go_wp2_with fail
    go_ret
    exact ⟨rfl, Below.refl _ _⟩
  · by_cases h2 : 65536 < n
    · clear h
      go_enter Trym.func3, Trym.ntmps3
      go_wp2_with fail
      go_ret
      exact ⟨rfl, Below.refl _ _⟩
    · have h3 : hh < -1073741824 := by omega
      clear h
      go_enter Trym.func3, Trym.ntmps3
      go_wp2_with fail
      go_ret
      exact ⟨rfl, Below.refl _ _⟩

set_option maxHeartbeats 3200000 in
theorem mirror_nil (kind hh : Int) (share n t : Nat) (w : World) (hn : n ≤ 65536) (hh1 : -1073741824 ≤ hh) :
    Calls Trym.prog 3 #[.int .i64 kind, .int .i64 hh, .float .f64 share, .pointer none, .int .i64 n, .float .f64 t] w fun e w' => e = .returned (.bool true) ∧ Below w.heap.size w w' := by
  have q1 : decide ((n : Int) < 0) = false := by simp
  have q2 : decide (65536 < (n : Int)) = false := by simp; omega
  have q3 : decide (hh < -1073741824) = false := by simp; omega
  go_enter Trym.func3, Trym.ntmps3
  go_wp2_with fail
  refine (copyptr_nil _).mono ?_
  rintro e w' ⟨rfl, hw⟩
  have m0 : Mom w' (.pointer none) none := .inl ⟨rfl, rfl⟩
  have b0 : Below w.heap.size w w' := by rw [hw]; exact Below.refl _ _
  clear hw
  have HM := hide m0
  clear m0
  go_wp2_with fail
  refine (spreadof_any kind hh share _ _).mono ?_
  rintro e w1 ⟨rfl, o1, rfl⟩
  go_wp2_with fail
  refine (spreadof_any kind hh share _ _).mono ?_
  rintro e w2 ⟨rfl, o2, rfl⟩
  go_wp2_with fail
  have S1 := sp_new (w'.alloc (.cells o1 27)) kind hh share none none (HM.out.below (below_alloc _ _))
  have S2 := (S1.below (below_alloc _ (.cells o2 27))).below (below_alloc _ (.cells #[.int .i64 kind, .int .i64 hh, .float .f64 share, .pointer none] 27))
  have T1 := sp_new ((((w'.alloc (.cells o1 27)).alloc (.cells #[.int .i64 kind, .int .i64 hh, .float .f64 share, .pointer none] 27)).alloc (.cells o2 27))) kind hh share none none (.inl ⟨rfl, rfl⟩)
  rw [World.size_alloc] at S2
  rw [World.size_alloc, World.size_alloc, World.size_alloc] at T1
  have Bw := bstep (bstep (bstep (below_alloc w' (.cells o1 27)) (Nat.le_refl _) (below_alloc _ (.cells #[.int .i64 kind, .int .i64 hh, .float .f64 share, .pointer none] 27))) (Nat.le_refl _) (below_alloc _ (.cells o2 27))) (Nat.le_refl _) (below_alloc _ (.cells #[.int .i64 kind, .int .i64 hh, .float .f64 share, .pointer none] 27))
  refine (zzshares_ex _ 0 n t kind hh share none _ hn S2).mono ?_
  rintro e w3 ⟨g1, rfl, F1, b3⟩
  have T2 := T1.below b3
  have B3 := bstep Bw (Nat.le_refl _) b3
  clear S1 S2 T1 Bw b3 HM
  go_wp2_with fail
  refine (zzshares_ex _ 0 n t kind hh share none _ hn T2).mono ?_
  rintro e w4 ⟨g2, rfl, F2, b4⟩
  have F1' := F1.below b4
  have B4 := bstep B3 (Nat.le_refl _) b4
  have BB := bstep b0 (Nat.le_refl _) B4
  clear F1 T2 b4 b0 B3 B4
  go_wp2_with fail
  go_loopw [18] (fun i wr => ∃ k : Nat, k ≤ n ∧ i = .int .i64 k ∧ Floats wr g1 n (shareC kind hh share none t n) ∧ Floats wr g2 n (shareC kind hh share none t n) ∧ Below w.heap.size w wr) (fun i _ => n - (intOf i).toNat)
  case atStart => exact ⟨0, Nat.zero_le _, rfl, F1', F2, BB⟩
  case round =>
    clear F1' F2 BB
    obtain ⟨k, hkn, rfl, F1, F2, BB⟩ := hrel
    by_cases hlt : k < n
    · obtain ⟨r1, c1, l1⟩ := F1.2 k hlt
      obtain ⟨r2, c2, l2⟩ := F2.2 k hlt
      have hs : Fo.sameF r1 r2 = true := l1.same l2
      have HF1 := hide F1
      have HF2 := hide F2
      have HBB := hide BB
      clear l1 l2 F1 F2 BB
      go_wp2
      go_quiet ((go_at_call 11; exact Calls.quiet_of_same (samef_yes _ _ _ hs)))
      go_wp2
      go_roundw
      case rel => exact ⟨k + 1, by omega, by go_num, HF1.out.below (below_drewN (Below.refl _ _) _), HF2.out.below (below_drewN (Below.refl _ _) _), below_drewN HBB.out _⟩
      case measure => simp [intOf]; omega
    · have HBB := hide BB
      clear F1 F2 BB
      go_wp2
      go_ret
      exact ⟨rfl, HBB.out⟩

set_option maxHeartbeats 3200000 in
theorem mirror_before (kind hh : Int) (share n t : Nat) (b off c : Nat) (w : World) (hn : n ≤ 65536) (hh1 : -1073741824 ≤ hh) (hc : w.cell? ⟨b, off, none⟩ = some (.float .f64 c)) (hge : (FloatKind.f64.format.order t c == some .gt || FloatKind.f64.format.order t c == some .eq) = false) :
    Calls Trym.prog 3 #[.int .i64 kind, .int .i64 hh, .float .f64 share, .pointer (some ⟨b, off, none⟩), .int .i64 n, .float .f64 t] w fun e w' => e = .returned (.bool true) ∧ Below w.heap.size w w' := by
  have q1 : decide ((n : Int) < 0) = false := by simp
  have q2 : decide (65536 < (n : Int)) = false := by simp; omega
  have q3 : decide (hh < -1073741824) = false := by simp; omega
  have hcl : ∀ h, h < n → shareC kind hh share (some c) t n h = shareC kind hh share none t n h := fun h _ => stay_share (by unfold moved Fo.geB; simp only; rw [hge]; exact Bool.false_ne_true)
  have HC := hide hcl
  clear hcl
  go_enter Trym.func3, Trym.ntmps3
  go_wp2_with fail
  refine (copyptr_some b off c _ hc).mono ?_
  rintro e w' ⟨rfl, hw⟩
  have hsz : w'.heap.size = w.heap.size + 1 := by rw [hw]; simp
  have m0 : Mom w' (.pointer (some ⟨w.heap.size, 0, none⟩)) (some c) := .inr ⟨c, w.heap.size, rfl, rfl, by omega, by rw [hw]; simp [go_sem]⟩
  have b0 : Below w.heap.size w w' := by rw [hw]; exact below_alloc _ _
  have mc : w'.cell? ⟨w.heap.size, 0, none⟩ = some (.float .f64 c) := by rw [hw]; simp [go_sem]
  have hlt0 : w.heap.size < w'.heap.size := by omega
  clear hw hc hsz
  have HM := hide m0
  clear m0
  go_wp2_with fail
  refine (spreadof_any kind hh share _ _).mono ?_
  rintro e w1 ⟨rfl, o1, rfl⟩
  go_wp2_with fail
  refine (spreadof_any kind hh share _ _).mono ?_
  rintro e w2 ⟨rfl, o2, rfl⟩
  go_wp2_with fail
  have S1 := sp_new (w'.alloc (.cells o1 27)) kind hh share (some ⟨w.heap.size, 0, none⟩) (some c) (HM.out.below (below_alloc _ _))
  have S2 := (S1.below (below_alloc _ (.cells o2 27))).below (below_alloc _ (.cells #[.int .i64 kind, .int .i64 hh, .float .f64 share, .pointer none] 27))
  have T1 := sp_new ((((w'.alloc (.cells o1 27)).alloc (.cells #[.int .i64 kind, .int .i64 hh, .float .f64 share, .pointer (some ⟨w.heap.size, 0, none⟩)] 27)).alloc (.cells o2 27))) kind hh share none none (.inl ⟨rfl, rfl⟩)
  rw [World.size_alloc] at S2
  rw [World.size_alloc, World.size_alloc, World.size_alloc] at T1
  have Bw := bstep (bstep (bstep (below_alloc w' (.cells o1 27)) (Nat.le_refl _) (below_alloc _ (.cells #[.int .i64 kind, .int .i64 hh, .float .f64 share, .pointer (some ⟨w.heap.size, 0, none⟩)] 27))) (Nat.le_refl _) (below_alloc _ (.cells o2 27))) (Nat.le_refl _) (below_alloc _ (.cells #[.int .i64 kind, .int .i64 hh, .float .f64 share, .pointer none] 27))
  refine (zzshares_ex _ 0 n t kind hh share (some c) _ hn S2).mono ?_
  rintro e w3 ⟨g1, rfl, F1, b3⟩
  have T2 := T1.below b3
  have B3 := bstep Bw (Nat.le_refl _) b3
  clear S1 S2 T1 Bw b3 HM
  go_wp2_with fail
  refine (zzshares_ex _ 0 n t kind hh share none _ hn T2).mono ?_
  rintro e w4 ⟨g2, rfl, F2, b4⟩
  have F1' := F1.below b4
  have B4 := bstep B3 (Nat.le_refl _) b4
  have BB := bstep b0 (Nat.le_refl _) B4
  have mc4 : w4.cell? ⟨w.heap.size, 0, none⟩ = some (.float .f64 c) := (B4.cell (by exact hlt0)).trans mc
  clear mc
  clear F1 T2 b4 b0 B3 B4
  go_wp2_with fail
  go_loopw [18] (fun i wr => ∃ k : Nat, k ≤ n ∧ i = .int .i64 k ∧ Floats wr g1 n (shareC kind hh share (some c) t n) ∧ Floats wr g2 n (shareC kind hh share none t n) ∧ Below w.heap.size w wr) (fun i _ => n - (intOf i).toNat)
  case atStart => exact ⟨0, Nat.zero_le _, rfl, F1', F2, BB⟩
  case round =>
    clear F1' F2 BB mc4
    obtain ⟨k, hkn, rfl, F1, F2, BB⟩ := hrel
    by_cases hlt : k < n
    · obtain ⟨r1, c1, l1⟩ := F1.2 k hlt
      obtain ⟨r2, c2, l2⟩ := F2.2 k hlt
      have hs : Fo.sameF r1 r2 = true := (HC.out k hlt ▸ l1).same l2
      have HF1 := hide F1
      have HF2 := hide F2
      have HBB := hide BB
      clear l1 l2 F1 F2 BB
      go_wp2
      go_quiet ((go_at_call 11; exact Calls.quiet_of_same (samef_yes _ _ _ hs)))
      go_wp2
      go_roundw
      case rel => exact ⟨k + 1, by omega, by go_num, HF1.out.below (below_drewN (Below.refl _ _) _), HF2.out.below (below_drewN (Below.refl _ _) _), below_drewN HBB.out _⟩
      case measure => simp [intOf]; omega
    · have HBB := hide BB
      clear F1 F2 BB
      go_wp2
      go_ret
      exact ⟨rfl, HBB.out⟩

set_option maxHeartbeats 3200000 in
theorem mirror_after (kind hh : Int) (share n t : Nat) (b off c : Nat) (w : World) (hn : n ≤ 65536) (hh1 : -1073741824 ≤ hh) (hh2 : hh ≤ 9223372036854775807) (hc : w.cell? ⟨b, off, none⟩ = some (.float .f64 c)) (hge : (FloatKind.f64.format.order t c == some .gt || FloatKind.f64.format.order t c == some .eq) = true) :
    Calls Trym.prog 3 #[.int .i64 kind, .int .i64 hh, .float .f64 share, .pointer (some ⟨b, off, none⟩), .int .i64 n, .float .f64 t] w fun e w' => e = .returned (.bool true) ∧ Below w.heap.size w w' := by
  have q1 : decide ((n : Int) < 0) = false := by simp
  have q2 : decide (65536 < (n : Int)) = false := by simp; omega
  have q3 : decide (hh < -1073741824) = false := by simp; omega
  have hcl : ∀ h, h < n → shareC kind hh share (some c) t n h = shareC kind hh share none t n (n - 1 - h) := fun h hl => mirror_share hn hh1 hh2 hl (by unfold moved Fo.geB; simp only; rw [hge])
  have HC := hide hcl
  clear hcl
  go_enter Trym.func3, Trym.ntmps3
  go_wp2_with fail
  refine (copyptr_some b off c _ hc).mono ?_
  rintro e w' ⟨rfl, hw⟩
  have hsz : w'.heap.size = w.heap.size + 1 := by rw [hw]; simp
  have m0 : Mom w' (.pointer (some ⟨w.heap.size, 0, none⟩)) (some c) := .inr ⟨c, w.heap.size, rfl, rfl, by omega, by rw [hw]; simp [go_sem]⟩
  have b0 : Below w.heap.size w w' := by rw [hw]; exact below_alloc _ _
  have mc : w'.cell? ⟨w.heap.size, 0, none⟩ = some (.float .f64 c) := by rw [hw]; simp [go_sem]
  have hlt0 : w.heap.size < w'.heap.size := by omega
  clear hw hc hsz
  have HM := hide m0
  clear m0
  go_wp2_with fail
  refine (spreadof_any kind hh share _ _).mono ?_
  rintro e w1 ⟨rfl, o1, rfl⟩
  go_wp2_with fail
  refine (spreadof_any kind hh share _ _).mono ?_
  rintro e w2 ⟨rfl, o2, rfl⟩
  go_wp2_with fail
  have S1 := sp_new (w'.alloc (.cells o1 27)) kind hh share (some ⟨w.heap.size, 0, none⟩) (some c) (HM.out.below (below_alloc _ _))
  have S2 := (S1.below (below_alloc _ (.cells o2 27))).below (below_alloc _ (.cells #[.int .i64 kind, .int .i64 hh, .float .f64 share, .pointer none] 27))
  have T1 := sp_new ((((w'.alloc (.cells o1 27)).alloc (.cells #[.int .i64 kind, .int .i64 hh, .float .f64 share, .pointer (some ⟨w.heap.size, 0, none⟩)] 27)).alloc (.cells o2 27))) kind hh share none none (.inl ⟨rfl, rfl⟩)
  rw [World.size_alloc] at S2
  rw [World.size_alloc, World.size_alloc, World.size_alloc] at T1
  have Bw := bstep (bstep (bstep (below_alloc w' (.cells o1 27)) (Nat.le_refl _) (below_alloc _ (.cells #[.int .i64 kind, .int .i64 hh, .float .f64 share, .pointer (some ⟨w.heap.size, 0, none⟩)] 27))) (Nat.le_refl _) (below_alloc _ (.cells o2 27))) (Nat.le_refl _) (below_alloc _ (.cells #[.int .i64 kind, .int .i64 hh, .float .f64 share, .pointer none] 27))
  refine (zzshares_ex _ 0 n t kind hh share (some c) _ hn S2).mono ?_
  rintro e w3 ⟨g1, rfl, F1, b3⟩
  have T2 := T1.below b3
  have B3 := bstep Bw (Nat.le_refl _) b3
  clear S1 S2 T1 Bw b3 HM
  go_wp2_with fail
  refine (zzshares_ex _ 0 n t kind hh share none _ hn T2).mono ?_
  rintro e w4 ⟨g2, rfl, F2, b4⟩
  have F1' := F1.below b4
  have B4 := bstep B3 (Nat.le_refl _) b4
  have BB := bstep b0 (Nat.le_refl _) B4
  have mc4 : w4.cell? ⟨w.heap.size, 0, none⟩ = some (.float .f64 c) := (B4.cell (by exact hlt0)).trans mc
  clear mc
  clear F1 T2 b4 b0 B3 B4
  go_wp2_with fail
  go_loopw [18] (fun i wr => ∃ k : Nat, k ≤ n ∧ i = .int .i64 k ∧ Floats wr g1 n (shareC kind hh share (some c) t n) ∧ Floats wr g2 n (shareC kind hh share none t n) ∧ Below w.heap.size w wr) (fun i _ => n - (intOf i).toNat)
  case atStart => exact ⟨0, Nat.zero_le _, rfl, F1', F2, BB⟩
  case round =>
    clear F1' F2 BB mc4
    obtain ⟨k, hkn, rfl, F1, F2, BB⟩ := hrel
    by_cases hlt : k < n
    · obtain ⟨r1, c1, l1⟩ := F1.2 k hlt
      obtain ⟨j, hj⟩ : ∃ j : Nat, (n : Int) - 1 - (k : Int) = j := ⟨n - 1 - k, by omega⟩
      have hjn : j < n := by omega
      have hjk : n - 1 - k = j := by omega
      obtain ⟨r2, c2, l2⟩ := F2.2 j hjn
      have hs : Fo.sameF r1 r2 = true := (hjk ▸ HC.out k hlt ▸ l1).same l2
      clear hjk
      have HF1 := hide F1
      have HF2 := hide F2
      have HBB := hide BB
      clear l1 l2 F1 F2 BB
      go_wp2
      go_quiet ((go_at_call 11; exact Calls.quiet_of_same (samef_yes _ _ _ hs)))
      go_wp2
      go_roundw
      case rel => exact ⟨k + 1, by omega, by go_num, HF1.out.below (below_drewN (Below.refl _ _) _), HF2.out.below (below_drewN (Below.refl _ _) _), below_drewN HBB.out _⟩
      case measure => simp [intOf]; omega
    · have HBB := hide BB
      clear F1 F2 BB
      go_wp2
      go_ret
      exact ⟨rfl, HBB.out⟩

theorem mirror_any (kind hh : Int) (share : Nat) (v : Value) (mo : Option Nat) (n : Int) (t : Nat) (w : World) (hh2 : hh ≤ 9223372036854775807) (h : Came w v mo) :
    Calls Trym.prog 3 #[.int .i64 kind, .int .i64 hh, .float .f64 share, v, .int .i64 n, .float .f64 t] w fun e w' => e = .returned (.bool true) ∧ Below w.heap.size w w' := by
  by_cases he : n < 0 ∨ 65536 < n ∨ hh < -1073741824
  · exact mirror_early kind hh share v n t w he
  · obtain ⟨m, rfl⟩ := Int.eq_ofNat_of_zero_le (show 0 ≤ n by omega)
    rcases h with ⟨rfl, rfl⟩ | ⟨c, b, off, rfl, rfl, hc⟩
    · exact mirror_nil kind hh share m t w (by omega) (by omega)
    · cases hg : (FloatKind.f64.format.order t c == some .gt || FloatKind.f64.format.order t c == some .eq)
      · exact mirror_before kind hh share m t b off c w (by omega) (by omega) hc hg
      · exact mirror_after kind hh share m t b off c w (by omega) (by omega) hh2 hc hg
end Go.Proofs.Qxb6601926aMods
