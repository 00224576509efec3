/-
  (*Scenario).stillUntil, ZZScenarioStillUntil.
-/
import Derived.Test.Qxb6601926aModsScen
namespace Go.Proofs.Qxb6601926aMods
open Go.RowKit
attribute [local go_sem] run_store_float

/-- One event's turn: the event (a, kd) brings 't' forward where it is a leaving inside (f, t). -/
def stepE (f t a : Nat) (kd : Int) : Nat := if kd = 3 ∧ Fo.ltB f a = true ∧ Fo.ltB a t = true then a else t
/-- What 'to' is behind the first k events. -/
def evTo (f t0 : Nat) (ats : List Nat) (kds : List Int) : Nat → Nat
  | 0 => t0
  | k + 1 => stepE f (evTo f t0 ats kds k) (ats.getD k 0) (kds.getD k 0)
/-- What (*Scenario).stillUntil answers. -/
def scTill (mo : Option Nat) (ats : List Nat) (kds : List Int) (n f t : Nat) : Nat := evTo f (till mo f t) ats kds n

/-- A Scenario in memory: its move point and its events. -/
def ScIs (w : World) (bs : Nat) (mo : Option Nat) (n : Nat) (ats : List Nat) (kds : List Int) : Prop :=
  bs < w.heap.size ∧ (∃ v, w.cell? ⟨bs, 8, none⟩ = some v ∧ Mom w v mo) ∧ ∃ g, w.cell? ⟨bs, 15, none⟩ = some (.slice (some ⟨g, 0, none⟩) n n) ∧ Evs w g n ats kds
theorem ScIs.below {w w' : World} {bs : Nat} {mo : Option Nat} {n : Nat} {ats : List Nat} {kds : List Int} (h : ScIs w bs mo n ats kds) (hb : Below w.heap.size w w') : ScIs w' bs mo n ats kds := by
  obtain ⟨h0, ⟨v, h1, h2⟩, g, h3, h4⟩ := h
  exact ⟨Nat.lt_of_lt_of_le h0 hb.size, ⟨v, (hb.cell (p := ⟨bs, 8, none⟩) h0).trans h1, h2.below hb⟩, g, (hb.cell (p := ⟨bs, 15, none⟩) h0).trans h3, h4.below hb⟩

set_option maxHeartbeats 3200000 in
theorem scuntil_any (bs : Nat) (mo : Option Nat) (n : Nat) (ats : List Nat) (kds : List Int) (f t : Nat) (w : World) (hn : n ≤ 65536) (h : ScIs w bs mo n ats kds) :
    Calls Trym.prog 21 #[.pointer (some ⟨bs, 0, none⟩), .float .f64 f, .float .f64 t] w fun e w' => e = .returned (.float .f64 (scTill mo ats kds n f t)) ∧ Below w.heap.size w w' := by
  obtain ⟨h0, ⟨v, h1, h2⟩, g, h3, h4⟩ := h
  obtain ⟨t0, ht0⟩ : ∃ t0, t0 = till mo f t := ⟨_, rfl⟩
  have HT := hide ht0
  clear ht0
  have HE := hide h4
  have HM := hide h2
  clear h4 h2
  go_enter Trym.func21, Trym.ntmps21
  go_wp2_with fail
  refine (until_any bs 5 v mo f t _ h1 HM.out).mono ?_
  rintro e w' ⟨he, rfl⟩
  rw [← HT.out] at he
  subst he
  go_wp2_with fail
  go_loopw [2, 20] (fun u i wr => ∃ k : Nat, k ≤ n ∧ i = .int .i64 k ∧ u = .float .f64 (evTo f t0 ats kds k) ∧ Below w'.heap.size w' wr) (fun _ i _ => n - (intOf i).toNat)
  case atStart => exact ⟨0, Nat.zero_le _, rfl, rfl, Below.refl _ _⟩
  case round =>
    obtain ⟨k, hkn, rfl, rfl, hB⟩ := hrel
    by_cases hlt : k < n
    · obtain ⟨d0, d1, d2⟩ := (HE.out.below hB).2 k hlt
      obtain ⟨a, ha⟩ : ∃ a, a = ats.getD k 0 := ⟨_, rfl⟩
      obtain ⟨kd, hkd⟩ : ∃ kd, kd = kds.getD k 0 := ⟨_, rfl⟩
      obtain ⟨u, hu⟩ : ∃ u, u = evTo f t0 ats kds k := ⟨_, rfl⟩
      have hs : evTo f t0 ats kds (k + 1) = stepE f u a kd := by rw [hu, ha, hkd]; rfl
      rw [← ha] at d0
      rw [← hkd] at d1
      rw [← hu]
      have HB := hide hB
      clear hB ha hkd hu
      cases x : (kd == 3)
      · have HS := hide (hs.trans (show stepE f u a kd = u from if_neg (fun c => by rw [beq_eq_false_iff_ne] at x; exact x c.1)))
        clear hs
        go_wp2
        go_roundw
        case rel => exact ⟨k + 1, by omega, by go_num, by rw [HS.out], HB.out.alloc HB.out.size _⟩
        case measure => simp [intOf]; omega
      cases y : (FloatKind.f64.format.order f a == some .lt)
      · have HS := hide (hs.trans (show stepE f u a kd = u from if_neg (fun c => by have := c.2.1; unfold Fo.ltB at this; rw [y] at this; cases this)))
        clear hs
        go_wp2
        go_roundw
        case rel => exact ⟨k + 1, by omega, by go_num, by rw [HS.out], HB.out.alloc HB.out.size _⟩
        case measure => simp [intOf]; omega
      cases z : (FloatKind.f64.format.order a u == some .lt)
      · have HS := hide (hs.trans (show stepE f u a kd = u from if_neg (fun c => by have := c.2.2; unfold Fo.ltB at this; rw [z] at this; cases this)))
        clear hs
        go_wp2
        go_roundw
        case rel => exact ⟨k + 1, by omega, by go_num, by rw [HS.out], HB.out.alloc HB.out.size _⟩
        case measure => simp [intOf]; omega
      · have HS := hide (hs.trans (show stepE f u a kd = a from if_pos ⟨by simpa using x, y, z⟩))
        clear hs
        go_wp2
        go_roundw
        case rel => exact ⟨k + 1, by omega, by go_num, by rw [HS.out], HB.out.alloc HB.out.size _⟩
        case measure => simp [intOf]; omega
    · have hkl : k = n := by omega
      subst hkl
      have HF : Hid (evTo f t0 ats kds k = scTill mo ats kds k f t) := hide (by unfold scTill; rw [HT.out])
      go_wp2
      go_ret
      exact ⟨ret_float HF.out, hB⟩

set_option maxHeartbeats 400000 in
theorem zzscuntil_any (bs : Nat) (mo : Option Nat) (n : Nat) (ats : List Nat) (kds : List Int) (f t : Nat) (w : World) (hn : n ≤ 65536) (h : ScIs w bs mo n ats kds) :
    Calls Trym.prog 17 #[.pointer (some ⟨bs, 0, none⟩), .float .f64 f, .float .f64 t] w fun e w' => e = .returned (.float .f64 (scTill mo ats kds n f t)) ∧ Below w.heap.size w w' := by
  go_enter Trym.func17, Trym.ntmps17
  go_wp2_with (go_at_call 21; refine (scuntil_any bs mo n ats kds f t _ hn h).mono ?_; rintro e w' ⟨rfl, hb⟩)
  go_ret
  exact ⟨rfl, hb⟩
end Go.Proofs.Qxb6601926aMods
