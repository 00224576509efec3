/-
  The walk of FnSameStreamIsAnEquivalence out of its callees' contracts.
-/
import Derived.Test.Qxb6601870aModsSame
namespace Go.Proofs.Qxb6601870aMods
open Go.RowKit

/-! ### zzBytes -/
set_option maxHeartbeats 800000 in
theorem bytes_yes (p q r : Option Addr) (l0 l4 l8 k0 k4 k8 : Nat) (a1 a2 a3 a5 a6 a7 a9 a10 a11 : Int) (w : World) (h : l0 + l4 + l8 ≤ 1048576) :
    Calls Trym.prog 7 #[.slice p l0 k0, .int .i64 a1, .int .i64 a2, .int .i64 a3, .slice q l4 k4, .int .i64 a5, .int .i64 a6, .int .i64 a7, .slice r l8 k8, .int .i64 a9, .int .i64 a10, .int .i64 a11] w
      fun e w' => e = .returned (.bool true) ∧ w' = w := by
  have h1 : (l0 : Int) + l4 + l8 ≤ 1048576 := by omega
  go_enter Trym.func7, Trym.ntmps7
  go_wp2
  go_ret
  exact ⟨rfl, rfl⟩
set_option maxHeartbeats 1600000 in
theorem bytes_no (p q r : Option Addr) (l0 l4 l8 k0 k4 k8 : Nat) (a1 a2 a3 a5 a6 a7 a9 a10 a11 : Int) (w : World) (h : 1048576 < l0 + l4 + l8) :
    Calls Trym.prog 7 #[.slice p l0 k0, .int .i64 a1, .int .i64 a2, .int .i64 a3, .slice q l4 k4, .int .i64 a5, .int .i64 a6, .int .i64 a7, .slice r l8 k8, .int .i64 a9, .int .i64 a10, .int .i64 a11] w
      fun e w' => e = .returned (.bool false) ∧ w' = w := by
  by_cases c0 : 1048576 < (l0 : Int)
  · go_enter Trym.func7, Trym.ntmps7
    go_wp2
    go_ret
    exact ⟨rfl, rfl⟩
  · by_cases c4 : 1048576 < (l4 : Int)
    · go_enter Trym.func7, Trym.ntmps7
      go_wp2
      go_ret
      exact ⟨rfl, rfl⟩
    · by_cases c5 : 1048576 < (l0 : Int) + l4
      · go_enter Trym.func7, Trym.ntmps7
        go_wp2
        go_ret
        exact ⟨rfl, rfl⟩
      · by_cases c8 : 1048576 < (l8 : Int)
        · go_enter Trym.func7, Trym.ntmps7
          go_wp2
          go_ret
          exact ⟨rfl, rfl⟩
        · have c9 : 1048576 < (l0 : Int) + l4 + l8 := by omega
          go_enter Trym.func7, Trym.ntmps7
          go_wp2
          go_ret
          exact ⟨rfl, rfl⟩

/-! ### zzHoldsSegment -/
def HoldsP (l : Nat) (s : Int) : Prop := 20 ≤ (l : Int) ∧ 0 ≤ s ∧ s ≤ (l : Int) - 4
set_option maxHeartbeats 400000 in
theorem holds_yes (p : Option Addr) (l k : Nat) (s : Int) (w : World) (hm : l ≤ 1048576) (h : HoldsP l s) :
    Calls Trym.prog 8 #[.slice p l k, .int .i64 s] w fun e w' => e = .returned (.bool true) ∧ w' = w := by
  obtain ⟨h1, h2, h3⟩ := h
  go_enter Trym.func8, Trym.ntmps8
  go_wp2
  go_ret
  exact ⟨rfl, rfl⟩
set_option maxHeartbeats 800000 in
theorem holds_no (p : Option Addr) (l k : Nat) (s : Int) (w : World) (hm : l ≤ 1048576) (h : ¬ HoldsP l s) :
    Calls Trym.prog 8 #[.slice p l k, .int .i64 s] w fun e w' => e = .returned (.bool false) ∧ w' = w := by
  unfold HoldsP at h
  by_cases h1 : (l : Int) < 20
  · clear h
    go_enter Trym.func8, Trym.ntmps8
    go_wp2
    go_ret
    exact ⟨rfl, rfl⟩
  · by_cases h2 : 0 ≤ s
    · have h3 : ¬ s ≤ (l : Int) - 4 := by omega
      have h3' : decide (s ≤ (l : Int) - 4) = false := by simpa using h3
      clear h
      go_enter Trym.func8, Trym.ntmps8
      go_wp2
      go_ret
      exact ⟨rfl, rfl⟩
    · have h2' : decide (0 ≤ s) = false := by simpa using h2
      clear h
      go_enter Trym.func8, Trym.ntmps8
      go_wp2
      go_ret
      exact ⟨rfl, rfl⟩
end Go.Proofs.Qxb6601870aMods
