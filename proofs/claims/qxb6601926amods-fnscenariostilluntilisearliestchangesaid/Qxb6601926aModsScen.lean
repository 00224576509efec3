/-
  zzScenarioOf: the events row by row, and the struct.
-/
import Derived.Test.Qxb6601926aModsCopies
import Derived.RegionTactic
import Derived.BigRegion
namespace Go.Proofs.Qxb6601926aMods
open Go.RowKit
attribute [local go_sem] run_store_float

/-- The zero Scenario's cells; those of the Scenario that zzScenarioOf makes. -/
def scZero : Array Value := #[.string { data := #[] }, .float .f64 0, .int .i64 0, .float .f64 0, .float .f64 0, .int .i64 0, .int .i64 0, .float .f64 0, .pointer none, .int .u64 0, .int .i64 0, .slice none 0 0, .float .f64 0, .float .f64 0, .pointer none, .slice none 0 0, .slice none 0 0]
def scCells (va : Option Addr) (ev : Value) : Array Value := #[.string { data := #[] }, .float .f64 0, .int .i64 0, .float .f64 0, .float .f64 0, .int .i64 0, .int .i64 0, .float .f64 0, .pointer va, .int .u64 0, .int .i64 0, .slice none 0 0, .float .f64 0, .float .f64 0, .pointer none, ev, .slice none 0 0]

/-- The events' row: the first k are laid. -/
def EvPart (w : World) (base g n k : Nat) (ats : List Nat) (kds : List Int) : Prop :=
  ∃ xs : List Value, w.ownsRow base 55 3 (.slice (some ⟨g, 0, none⟩) n n) n xs ∧
    ∀ i, i < k → xs[i * 3]? = some (.float .f64 (ats.getD i 0)) ∧ xs[i * 3 + 1]? = some (.int .i64 (kds.getD i 0)) ∧ xs[i * 3 + 2]? = some (.pointer none)
theorem EvPart.cell {w : World} {base g n k : Nat} {ats : List Nat} {kds : List Int} (h : EvPart w base g n k ats kds) (j : Nat) (hj : j < n * 3) : ∃ x, w.cell? ⟨g, j, none⟩ = some x := by
  obtain ⟨xs, h1, _⟩ := h
  refine ⟨xs[j]'(by rw [h1.1]; exact hj), ?_⟩
  rw [h1.cellAt j hj]
  simp
theorem EvPart.frozen {w : World} {base g n k : Nat} {ats : List Nat} {kds : List Int} (h : EvPart w base g n k ats kds) (j : Nat) : w.frozen? ⟨g, j, none⟩ = false := by
  obtain ⟨xs, h1, _⟩ := h
  exact h1.frozenAt j
theorem EvPart.drew {w : World} {base g n k : Nat} {ats : List Nat} {kds : List Int} (h : EvPart w base g n k ats kds) : EvPart w.drew base g n k ats kds := by
  obtain ⟨xs, h1, h2⟩ := h
  exact ⟨xs, h1.drew, h2⟩
theorem EvPart.step {w : World} {base g n k : Nat} {ats : List Nat} {kds : List Int} (h : EvPart w base g n k ats kds) (hk : k < n) :
    EvPart (((w.setCell ⟨g, k * 3, none⟩ (.float .f64 (ats.getD k 0))).setCell ⟨g, k * 3 + 1, none⟩ (.int .i64 (kds.getD k 0))).setCell ⟨g, k * 3 + 2, none⟩ (.pointer none)) base g n (k + 1) ats kds := by
  obtain ⟨xs, h1, h2⟩ := h
  have hl : xs.length = n * 3 := h1.1
  refine ⟨_, ((((h1.stored (k * 3) _).1).stored (k * 3 + 1) _).1.stored (k * 3 + 2) _).1, fun i hi => ?_⟩
  by_cases e : i = k
  · subst e
    simp [hl, show i * 3 < n * 3 by omega, show i * 3 + 1 < n * 3 by omega, show i * 3 + 2 < n * 3 by omega]
  · obtain ⟨p, q, r⟩ := h2 i (by omega)
    simp [show ¬ k * 3 = i * 3 by omega, show ¬ k * 3 + 1 = i * 3 by omega, show ¬ k * 3 + 2 = i * 3 by omega, show ¬ k * 3 = i * 3 + 1 by omega, show ¬ k * 3 + 2 = i * 3 + 1 by omega, show ¬ k * 3 = i * 3 + 2 by omega]
    exact ⟨p, q, r⟩

/-- The events, laid. -/
def Evs (w : World) (g n : Nat) (ats : List Nat) (kds : List Int) : Prop :=
  g < w.heap.size ∧ ∀ i, i < n → w.cell? ⟨g, i * 3, none⟩ = some (.float .f64 (ats.getD i 0)) ∧ w.cell? ⟨g, i * 3 + 1, none⟩ = some (.int .i64 (kds.getD i 0)) ∧ w.cell? ⟨g, i * 3 + 2, none⟩ = some (.pointer none)
theorem EvPart.evs {w : World} {base g n : Nat} {ats : List Nat} {kds : List Int} (h : EvPart w base g n n ats kds) : Evs w g n ats kds := by
  obtain ⟨xs, h1, h2⟩ := h
  refine ⟨(h1.lt g rfl).2, fun i hi => ?_⟩
  rw [h1.cellAt (i * 3) (by omega), h1.cellAt (i * 3 + 1) (by omega), h1.cellAt (i * 3 + 2) (by omega)]
  exact h2 i hi
theorem Evs.below {w w' : World} {g n : Nat} {ats : List Nat} {kds : List Int} (h : Evs w g n ats kds) (hb : Below w.heap.size w w') : Evs w' g n ats kds :=
  ⟨Nat.lt_of_lt_of_le h.1 hb.size, fun i hi => by
    obtain ⟨p, q, r⟩ := h.2 i hi
    exact ⟨(hb.cell (p := ⟨g, i * 3, none⟩) h.1).trans p, (hb.cell (p := ⟨g, i * 3 + 1, none⟩) h.1).trans q, (hb.cell (p := ⟨g, i * 3 + 2, none⟩) h.1).trans r⟩⟩

theorem Evs.setCell {w : World} {g n : Nat} {ats : List Nat} {kds : List Int} (h : Evs w g n ats kds) (a : Addr) (v : Value) (hne : g ≠ a.block) : Evs (w.setCell a v) g n ats kds := by
  have e : ∀ j, (w.setCell a v).cell? ⟨g, j, none⟩ = w.cell? ⟨g, j, none⟩ := fun j => World.cell?_of_block (a := ⟨g, j, none⟩) (heap_setCell_other w a g v hne)
  refine ⟨by simpa using h.1, fun i hi => ?_⟩
  rw [e, e, e]; exact h.2 i hi

theorem Trym.info55 : (Trym.prog.info? 55).map (fun i => (i.zero, i.size, i.bytes)) = some (some (.agg #[.float .f64 0, .int .i64 0, .pointer none]), 3, 24) := by kernel_rfl

/-- The struct's own block while the loop goes. -/
def Own (w : World) (B : Nat) : Prop := w.heap[B]? = some (.cells scZero 46 (0, 0))
theorem Own.cell {w : World} {B : Nat} (h : Own w B) (j : Nat) (v : Value) (hj : scZero[j]? = some v) : w.cell? ⟨B, j, none⟩ = some v := (cell_of_row w B j scZero 46 (0, 0) h).trans hj
theorem Own.frozen {w : World} {B : Nat} (h : Own w B) (j : Nat) : w.frozen? ⟨B, j, none⟩ = false := frozen_of_row w B j scZero 46 h
theorem Own.other {w : World} {B : Nat} (h : Own w B) {a : Addr} (hne : B ≠ a.block) (v : Value) : Own (w.setCell a v) B := (heap_setCell_other w a B v hne).trans h
theorem Own.drew {w : World} {B : Nat} (h : Own w B) : Own w.drew B := h
theorem Own.start {w w1 : World} (hg : (w.alloc (.cells scZero 46)).grownBy w1 none) : Own w1 w.heap.size := by
  unfold Own
  rw [hg.block w.heap.size (by simp) (by simp)]
  exact heap_alloc_new w _

set_option maxHeartbeats 3200000 in
theorem scen_some (va : Option Addr) (g1 g2 n : Nat) (ats : List Nat) (kds : List Int) (w : World) (hn : n ≤ 65536) (r1 : FRow w g1 n ats) (r2 : IRow w g2 n kds) :
    Calls Trym.prog 16 #[.pointer va, .slice (some ⟨g1, 0, none⟩) n n, .slice (some ⟨g2, 0, none⟩) n n] w fun e w' =>
      ∃ g, e = .returned (.agg (scCells va (.slice (some ⟨g, 0, none⟩) n n))) ∧ Evs w' g n ats kds ∧ Below w.heap.size w w' := by
  obtain ⟨i0, hi, hz0, hz1, hz2⟩ := info_parts Trym.info55
  go_enter Trym.func16, Trym.ntmps16
  go_wp2_with (refine wpList_make_full _ rfl (.tmp 10) (.tmp 10) 44 rfl w.heap.size 55 i0 (.agg #[.float .f64 0, .int .i64 0, .pointer none]) 3 Trym.underlying44 hi hz0 hz1 .i64 .i64 _ _ n rfl rfl rfl rfl (by rw [hz2]; omega) (by unfold maxLen; omega) (by simp) ?_; intro w1 hown hgrow)
  rw [World.size_alloc] at hown
  have hO : Own w1 w.heap.size := Own.start hgrow
  have hE : EvPart w1 w.heap.size (w.heap.size + 1) n 0 ats kds := ⟨_, hown, fun i h => absurd h (Nat.not_lt_zero _)⟩
  have hB : Below w.heap.size w w1 := ((Below.refl _ _).alloc (Nat.le_refl _) _).grown hgrow (by simp) (by simp)
  clear hown hgrow
  go_loopw [8] (fun i wr => ∃ k : Nat, k ≤ n ∧ i = .int .i64 k ∧ EvPart wr w.heap.size (w.heap.size + 1) n k ats kds ∧ Own wr w.heap.size ∧ Below w.heap.size w wr) (fun i _ => n - (intOf i).toNat)
  case atStart => exact ⟨0, Nat.zero_le _, rfl, hE, hO, hB⟩
  case round =>
    clear hE hO hB
    obtain ⟨k, hkn, rfl, hE, hO, hB⟩ := hrel
    by_cases hlt : k < n
    · have a1 : wr.cell? ⟨g1, k, none⟩ = some (.float .f64 (ats.getD k 0)) := (hB.cell (p := ⟨g1, k, none⟩) r1.1).trans (r1.2.2 k hlt)
      have a2 : wr.cell? ⟨g2, k, none⟩ = some (.int .i64 (kds.getD k 0)) := (hB.cell (p := ⟨g2, k, none⟩) r2.1).trans (r2.2.2 k hlt)
      obtain ⟨z1, e1⟩ : ∃ z, z = ats.getD k 0 := ⟨_, rfl⟩
      obtain ⟨z2, e2⟩ : ∃ z, z = kds.getD k 0 := ⟨_, rfl⟩
      rw [← e1] at a1
      rw [← e2] at a2
      have hf := hE.frozen
      obtain ⟨x0, d0⟩ := hE.cell (k * 3) (by omega)
      obtain ⟨x1, d1⟩ := hE.cell (k * 3 + 1) (by omega)
      obtain ⟨x2, d2⟩ := hE.cell (k * 3 + 2) (by omega)
      have S := hE.step hlt
      rw [← e1, ← e2] at S
      have HS := hide S
      have HO := hide hO
      have HB := hide hB
      clear hE hO hB S e1 e2
      go_wp2
      go_region
      go_wp2
      go_roundw
      case rel => exact ⟨k + 1, by omega, by go_num, HS.out.drew, (((HO.out.other (by simp) _).other (by simp) _).other (by simp) _).drew, (((HB.out.setCell (by simp) _).setCell (by simp) _).setCell (by simp) _).drew⟩
      case measure => simp [intOf]; omega
    · have hkl : k = n := by omega
      subst hkl
      have hf := hO.frozen
      have V := hE.evs
      have HV := hide V
      have HB := hide hB
      have f0 := hO.cell 0 (.string { data := #[] }) rfl
      have f1 := hO.cell 1 (.float .f64 0) rfl
      have f2 := hO.cell 2 (.int .i64 0) rfl
      have f3 := hO.cell 3 (.float .f64 0) rfl
      have f4 := hO.cell 4 (.float .f64 0) rfl
      have f5 := hO.cell 5 (.int .i64 0) rfl
      have f6 := hO.cell 6 (.int .i64 0) rfl
      have f7 := hO.cell 7 (.float .f64 0) rfl
      have f8 := hO.cell 8 (.pointer none) rfl
      have f9 := hO.cell 9 (.int .u64 0) rfl
      have f10 := hO.cell 10 (.int .i64 0) rfl
      have f11 := hO.cell 11 (.slice none 0 0) rfl
      have f12 := hO.cell 12 (.float .f64 0) rfl
      have f13 := hO.cell 13 (.float .f64 0) rfl
      have f14 := hO.cell 14 (.pointer none) rfl
      have f15 := hO.cell 15 (.slice none 0 0) rfl
      have f16 := hO.cell 16 (.slice none 0 0) rfl
      clear hE hO hB V
      go_wp2
      refine bodyPost_ret (v := .agg (scCells va (.slice (some ⟨w.heap.size + 1, 0, none⟩) k k))) (by simp [results, Trym.results16, go_sem, scCells, f0, f1, f2, f3, f4, f5, f6, f7, f8, f9, f10, f11, f12, f13, f14, f15, f16]) rfl ⟨w.heap.size + 1, rfl, ?_, ?_⟩
      · iterate 17 (refine Evs.setCell ?_ _ _ (by simp))
        exact HV.out
      · iterate 17 (refine Below.setCell ?_ (by simp) _)
        exact HB.out
end Go.Proofs.Qxb6601926aMods
