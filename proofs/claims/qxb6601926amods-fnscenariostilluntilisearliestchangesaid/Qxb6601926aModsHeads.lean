/-
  What the two scenario laws share: zzBytes, the early returns, the copies, the scenario.
-/
import Derived.Test.Qxb6601926aModsScenZero
import Derived.Test.Qxb6601926aModsPlain
namespace Go.Proofs.Qxb6601926aMods
open Go.RowKit
attribute [local go_sem] run_store_float

set_option maxHeartbeats 800000 in
theorem bytes13_yes (v : Value) (p q : Option Addr) (l1 l2 k1 k2 f t : Nat) (w : World) (h : l1 + l2 ≤ 1048576) :
    Calls Trym.prog 13 #[v, .slice p l1 k1, .slice q l2 k2, .float .f64 f, .float .f64 t] w fun e w' => e = .returned (.bool true) ∧ w' = w := by
  have h1 : (l1 : Int) + l2 ≤ 1048576 := by omega
  go_enter Trym.func13, Trym.ntmps13
  go_wp2
  go_ret
  exact ⟨rfl, rfl⟩
set_option maxHeartbeats 800000 in
theorem bytes13_no (v : Value) (p q : Option Addr) (l1 l2 k1 k2 f t : Nat) (w : World) (h : 1048576 < l1 + l2) :
    Calls Trym.prog 13 #[v, .slice p l1 k1, .slice q l2 k2, .float .f64 f, .float .f64 t] w fun e w' => e = .returned (.bool false) ∧ w' = w := by
  by_cases c1 : 1048576 < (l1 : Int)
  · go_enter Trym.func13, Trym.ntmps13
    go_wp2
    go_ret
    exact ⟨rfl, rfl⟩
  · by_cases c2 : 1048576 < (l2 : Int)
    · go_enter Trym.func13, Trym.ntmps13
      go_wp2
      go_ret
      exact ⟨rfl, rfl⟩
    · have c3 : 1048576 < (l1 : Int) + l2 := by omega
      go_enter Trym.func13, Trym.ntmps13
      go_wp2
      go_ret
      exact ⟨rfl, rfl⟩

set_option maxHeartbeats 800000 in
theorem bytes18_yes (v : Value) (p q : Option Addr) (l1 l2 k1 k2 f t : Nat) (w : World) (h : l1 + l2 ≤ 1048576) :
    Calls Trym.prog 18 #[v, .slice p l1 k1, .slice q l2 k2, .float .f64 f, .float .f64 t] w fun e w' => e = .returned (.bool true) ∧ w' = w := by
  have h1 : (l1 : Int) + l2 ≤ 1048576 := by omega
  go_enter Trym.func18, Trym.ntmps18
  go_wp2
  go_ret
  exact ⟨rfl, rfl⟩
set_option maxHeartbeats 800000 in
theorem bytes18_no (v : Value) (p q : Option Addr) (l1 l2 k1 k2 f t : Nat) (w : World) (h : 1048576 < l1 + l2) :
    Calls Trym.prog 18 #[v, .slice p l1 k1, .slice q l2 k2, .float .f64 f, .float .f64 t] w fun e w' => e = .returned (.bool false) ∧ w' = w := by
  by_cases c1 : 1048576 < (l1 : Int)
  · go_enter Trym.func18, Trym.ntmps18
    go_wp2
    go_ret
    exact ⟨rfl, rfl⟩
  · by_cases c2 : 1048576 < (l2 : Int)
    · go_enter Trym.func18, Trym.ntmps18
      go_wp2
      go_ret
      exact ⟨rfl, rfl⟩
    · have c3 : 1048576 < (l1 : Int) + l2 := by omega
      go_enter Trym.func18, Trym.ntmps18
      go_wp2
      go_ret
      exact ⟨rfl, rfl⟩

set_option maxHeartbeats 1600000 in
theorem earliest_early (v : Value) (p q : Option Addr) (l1 l2 k1 k2 f t : Nat) (w : World) (h : 1048576 < l1 + l2 ∨ 65536 < l1 ∨ 65536 < l2 ∨ l1 ≠ l2) :
    Calls Trym.prog 6 #[v, .slice p l1 k1, .slice q l2 k2, .float .f64 f, .float .f64 t] w fun e w' => e = .returned (.bool true) ∧ Below w.heap.size w w' := by
  by_cases hb' : 1048576 < l1 + l2
  · clear h
    go_enter Trym.func6, Trym.ntmps6
    go_wp2_with fail
    refine (bytes13_no _ p q l1 l2 k1 k2 f t _ (by omega)).mono ?_
    rintro e w' ⟨rfl, rfl⟩
    go_wp2_with fail
    go_ret
    exact ⟨rfl, Below.refl _ _⟩
  have hb : l1 + l2 ≤ 1048576 := by omega
  by_cases c1 : 65536 < (l1 : Int)
  · clear h
    go_enter Trym.func6, Trym.ntmps6
    go_wp2_with fail
    refine (bytes13_yes _ p q l1 l2 k1 k2 f t _ hb).mono ?_
    rintro e w' ⟨rfl, rfl⟩
    go_wp2_with fail
    go_ret
    exact ⟨rfl, Below.refl _ _⟩
  by_cases c2 : 65536 < (l2 : Int)
  · clear h
    go_enter Trym.func6, Trym.ntmps6
    go_wp2_with fail
    refine (bytes13_yes _ p q l1 l2 k1 k2 f t _ hb).mono ?_
    rintro e w' ⟨rfl, rfl⟩
    go_wp2_with fail
    go_ret
    exact ⟨rfl, Below.refl _ _⟩
  · have c3 : ((l1 : Int) != (l2 : Int)) = true := by rw [bne_iff_ne]; omega
    clear h
    go_enter Trym.func6, Trym.ntmps6
    go_wp2_with fail
    refine (bytes13_yes _ p q l1 l2 k1 k2 f t _ hb).mono ?_
    rintro e w' ⟨rfl, rfl⟩
    go_wp2_with fail
    go_ret
    exact ⟨rfl, Below.refl _ _⟩

set_option maxHeartbeats 1600000 in
theorem settles_early (v : Value) (p q : Option Addr) (l1 l2 k1 k2 f t : Nat) (w : World) (h : 1048576 < l1 + l2 ∨ 65536 < l1 ∨ 65536 < l2 ∨ l1 ≠ l2) :
    Calls Trym.prog 7 #[v, .slice p l1 k1, .slice q l2 k2, .float .f64 f, .float .f64 t] w fun e w' => e = .returned (.bool true) ∧ Below w.heap.size w w' := by
  by_cases hb' : 1048576 < l1 + l2
  · clear h
    go_enter Trym.func7, Trym.ntmps7
    go_wp2_with fail
    refine (bytes18_no _ p q l1 l2 k1 k2 f t _ (by omega)).mono ?_
    rintro e w' ⟨rfl, rfl⟩
    go_wp2_with fail
    go_ret
    exact ⟨rfl, Below.refl _ _⟩
  have hb : l1 + l2 ≤ 1048576 := by omega
  by_cases c1 : 65536 < (l1 : Int)
  · clear h
    go_enter Trym.func7, Trym.ntmps7
    go_wp2_with fail
    refine (bytes18_yes _ p q l1 l2 k1 k2 f t _ hb).mono ?_
    rintro e w' ⟨rfl, rfl⟩
    go_wp2_with fail
    go_ret
    exact ⟨rfl, Below.refl _ _⟩
  by_cases c2 : 65536 < (l2 : Int)
  · clear h
    go_enter Trym.func7, Trym.ntmps7
    go_wp2_with fail
    refine (bytes18_yes _ p q l1 l2 k1 k2 f t _ hb).mono ?_
    rintro e w' ⟨rfl, rfl⟩
    go_wp2_with fail
    go_ret
    exact ⟨rfl, Below.refl _ _⟩
  · have c3 : ((l1 : Int) != (l2 : Int)) = true := by rw [bne_iff_ne]; omega
    clear h
    go_enter Trym.func7, Trym.ntmps7
    go_wp2_with fail
    refine (bytes18_yes _ p q l1 l2 k1 k2 f t _ hb).mono ?_
    rintro e w' ⟨rfl, rfl⟩
    go_wp2_with fail
    go_ret
    exact ⟨rfl, Below.refl _ _⟩

theorem copyptr_adr (v : Value) (mo : Option Nat) (w : World) (h : Came w v mo) :
    Calls Trym.prog 8 #[v] w fun e w' => ∃ va, e = .returned (.pointer va) ∧ Mom w' (.pointer va) mo ∧ Below w.heap.size w w' := by
  refine (copyptr_any v mo w h).mono ?_
  rintro e w' ⟨v', he, hm, hb⟩
  have hm' := hm
  rcases hm with ⟨_, rfl⟩ | ⟨c, b, _, rfl, _, _⟩
  · exact ⟨none, he, hm', hb⟩
  · exact ⟨some ⟨b, 0, none⟩, he, hm', hb⟩

/-- A slice that zzCopyFloats, zzCopyInts hand back. -/
def CopF (w : World) (s : Option Addr) (k n : Nat) (zs : List Nat) : Prop := (n = 0 ∧ zs = []) ∨ (0 < n ∧ k = n ∧ ∃ g, s = some ⟨g, 0, none⟩ ∧ FRow w g n zs)
def CopI (w : World) (s : Option Addr) (k n : Nat) (zs : List Int) : Prop := (n = 0 ∧ zs = []) ∨ (0 < n ∧ k = n ∧ ∃ g, s = some ⟨g, 0, none⟩ ∧ IRow w g n zs)
theorem CopF.below {w w' : World} {s : Option Addr} {k n : Nat} {zs : List Nat} (h : CopF w s k n zs) (hb : Below w.heap.size w w') : CopF w' s k n zs := by
  rcases h with h | ⟨h0, h1, g, h2, h3⟩
  · exact .inl h
  · exact .inr ⟨h0, h1, g, h2, h3.below hb⟩

theorem copyf_any (a : Option Addr) (n c : Nat) (zs : List Nat) (w : World) (hn : n ≤ 65536) (h : CameF w a n zs) :
    Calls Trym.prog 14 #[.slice a n c] w fun e w' => ∃ s k, e = .returned (.slice s n k) ∧ CopF w' s k n zs ∧ Below w.heap.size w w' := by
  rcases h with ⟨rfl, rfl, rfl⟩ | ⟨x, rfl, hl, hc⟩
  · refine (copyf_nil c w).mono ?_
    rintro e w' ⟨he, rfl⟩
    exact ⟨none, 0, he, .inl ⟨rfl, rfl⟩, Below.refl _ _⟩
  · refine (copyf_some x n c zs w hn hl hc).mono ?_
    rintro e w' ⟨he, hr, hb⟩
    by_cases h0 : n = 0
    · subst h0; exact ⟨_, _, he, .inl ⟨rfl, List.eq_nil_of_length_eq_zero hl⟩, hb⟩
    · exact ⟨_, _, he, .inr ⟨by omega, rfl, _, rfl, hr⟩, hb⟩
theorem copyi_any (a : Option Addr) (n c : Nat) (zs : List Int) (w : World) (hn : n ≤ 65536) (h : CameI w a n zs) :
    Calls Trym.prog 15 #[.slice a n c] w fun e w' => ∃ s k, e = .returned (.slice s n k) ∧ CopI w' s k n zs ∧ Below w.heap.size w w' := by
  rcases h with ⟨rfl, rfl, rfl⟩ | ⟨x, rfl, hl, hc⟩
  · refine (copyi_nil c w).mono ?_
    rintro e w' ⟨he, rfl⟩
    exact ⟨none, 0, he, .inl ⟨rfl, rfl⟩, Below.refl _ _⟩
  · refine (copyi_some x n c zs w hn hl hc).mono ?_
    rintro e w' ⟨he, hr, hb⟩
    by_cases h0 : n = 0
    · subst h0; exact ⟨_, _, he, .inl ⟨rfl, List.eq_nil_of_length_eq_zero hl⟩, hb⟩
    · exact ⟨_, _, he, .inr ⟨by omega, rfl, _, rfl, hr⟩, hb⟩

theorem scen_any (va : Option Addr) (s1 s2 : Option Addr) (k1 k2 n : Nat) (ats : List Nat) (kds : List Int) (w : World) (hn : n ≤ 65536) (r1 : CopF w s1 k1 n ats) (r2 : CopI w s2 k2 n kds) :
    Calls Trym.prog 16 #[.pointer va, .slice s1 n k1, .slice s2 n k2] w fun e w' =>
      ∃ g, e = .returned (.agg (scCells va (.slice (some ⟨g, 0, none⟩) n n))) ∧ Evs w' g n ats kds ∧ Below w.heap.size w w' := by
  rcases r1 with ⟨rfl, rfl⟩ | ⟨h0, rfl, g1, rfl, q1⟩
  · rcases r2 with ⟨_, rfl⟩ | ⟨h0, _⟩
    · exact scen_zero va s1 s2 k1 k2 w
    · omega
  · rcases r2 with ⟨rfl, _⟩ | ⟨_, rfl, g2, rfl, q2⟩
    · omega
    · exact scen_some va g1 g2 _ ats kds w hn q1 q2

theorem sc_new (w : World) (va : Option Addr) (g n : Nat) (mo : Option Nat) (ats : List Nat) (kds : List Int) (hm : Mom w (.pointer va) mo) (he : Evs w g n ats kds) :
    ScIs (w.alloc (.cells (scCells va (.slice (some ⟨g, 0, none⟩) n n)) 46)) w.heap.size mo n ats kds := by
  have hb : Below w.heap.size w (w.alloc (.cells (scCells va (.slice (some ⟨g, 0, none⟩) n n)) 46)) := (Below.refl _ _).alloc (Nat.le_refl _) _
  exact ⟨by simp, ⟨.pointer va, by simp [go_sem, scCells], hm.below hb⟩, g, by simp [go_sem, scCells], he.below hb⟩
theorem below_new (w : World) (o : Obj) : Below w.heap.size w (w.alloc o) := (Below.refl _ _).alloc (Nat.le_refl _) o
end Go.Proofs.Qxb6601926aMods
