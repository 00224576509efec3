/-
  zzScenarioOf without events.
-/
import Derived.Test.Qxb6601926aModsScen
namespace Go.Proofs.Qxb6601926aMods
open Go.RowKit
attribute [local go_sem] run_store_float

set_option maxHeartbeats 3200000 in
theorem scen_zero (va : Option Addr) (a1 a2 : Option Addr) (c1 c2 : Nat) (w : World) :
    Calls Trym.prog 16 #[.pointer va, .slice a1 0 c1, .slice a2 0 c2] w fun e w' =>
      ∃ g, e = .returned (.agg (scCells va (.slice (some ⟨g, 0, none⟩) 0 0))) ∧ Evs w' g 0 [] [] ∧ Below w.heap.size w w' := by
  obtain ⟨i0, hi, hz0, hz1, hz2⟩ := info_parts Trym.info55
  go_enter Trym.func16, Trym.ntmps16
  go_wp2_with (refine wpList_make_full _ rfl (.tmp 10) (.tmp 10) 44 rfl w.heap.size 55 i0 (.agg #[.float .f64 0, .int .i64 0, .pointer none]) 3 Trym.underlying44 hi hz0 hz1 .i64 .i64 _ _ 0 rfl rfl rfl rfl (by rw [hz2]; omega) (by unfold maxLen; omega) (by simp) ?_; intro w1 hown hgrow)
  rw [World.size_alloc] at hown
  have hO : Own w1 w.heap.size := Own.start hgrow
  have hE : EvPart w1 w.heap.size (w.heap.size + 1) 0 0 [] [] := ⟨_, hown, fun i h => absurd h (Nat.not_lt_zero _)⟩
  have hB : Below w.heap.size w w1 := ((Below.refl _ _).alloc (Nat.le_refl _) _).grown hgrow (by simp) (by simp)
  clear hown hgrow
  have hf := hO.frozen
  have V := hE.evs
  have HV := hide V
  have HB := hide hB
  have f0 := hO.cell 0 (.string { data := #[] }) rfl
  have f1 := hO.cell 1 (.float .f64 0) rfl
  have f2 := hO.cell 2 (.int .i64 0) rfl
  have f3 := hO.cell 3 (.float .f64 0) rfl
  have f4 := hO.cell 4 (.float .f64 0) rfl
  have f5 := hO.cell 5 (.int .i64 0) rfl
  have f6 := hO.cell 6 (.int .i64 0) rfl
  have f7 := hO.cell 7 (.float .f64 0) rfl
  have f8 := hO.cell 8 (.pointer none) rfl
  have f9 := hO.cell 9 (.int .u64 0) rfl
  have f10 := hO.cell 10 (.int .i64 0) rfl
  have f11 := hO.cell 11 (.slice none 0 0) rfl
  have f12 := hO.cell 12 (.float .f64 0) rfl
  have f13 := hO.cell 13 (.float .f64 0) rfl
  have f14 := hO.cell 14 (.pointer none) rfl
  have f15 := hO.cell 15 (.slice none 0 0) rfl
  have f16 := hO.cell 16 (.slice none 0 0) rfl
  clear hE hO hB V
  refine wp_loop_rounds 1 ?_
  rw [rounds_succ]
  go_wp2
  refine bodyPost_ret (v := .agg (scCells va (.slice (some ⟨w.heap.size + 1, 0, none⟩) 0 0))) (by simp [results, Trym.results16, go_sem, scCells, f0, f1, f2, f3, f4, f5, f6, f7, f8, f9, f10, f11, f12, f13, f14, f15, f16]) rfl ⟨w.heap.size + 1, rfl, ?_, ?_⟩
  · iterate 17 (refine Evs.setCell ?_ _ _ (by simp))
    exact HV.out
  · iterate 17 (refine Below.setCell ?_ (by simp) _)
    exact HB.out
end Go.Proofs.Qxb6601926aMods
