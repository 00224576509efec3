/-
  zzCopyFloats, zzCopyInts: fresh copies.
-/
import Derived.Test.Qxb6601926aModsOpen
import Derived.Laws.CopyOwn
namespace Go.Proofs.Qxb6601926aMods
open Go.RowKit

theorem owns_block {w : World} {base g n : Nat} {e : TypeId} {xs : List Value} (h : w.ownsRow base e 1 (.slice (some ⟨g, 0, none⟩) n n) n xs) : ∃ cur, w.heap[g]? = some (.cells cur e (0, 0)) ∧ cur.size = n := by
  rcases h.2 with ⟨h', _⟩ | ⟨g', cap', cur, h', _, hg, _, _, hs, _⟩
  · simp at h'
  · simp only [Value.slice.injEq, Option.some.injEq, Addr.mk.injEq, and_true, true_and] at h'
    obtain ⟨rfl, rfl⟩ := h'
    exact ⟨cur, hg, by omega⟩
theorem add_block (x : Addr) (i : Nat) : (x.add i).block = x.block := by
  unfold Addr.add; split <;> rfl

/-- A row of floats, of ints, of the call's own. -/
def FRow (w : World) (g n : Nat) (zs : List Nat) : Prop := g < w.heap.size ∧ zs.length = n ∧ ∀ i, i < n → w.cell? ⟨g, i, none⟩ = some (.float .f64 (zs.getD i 0))
def IRow (w : World) (g n : Nat) (zs : List Int) : Prop := g < w.heap.size ∧ zs.length = n ∧ ∀ i, i < n → w.cell? ⟨g, i, none⟩ = some (.int .i64 (zs.getD i 0))
theorem FRow.below {w w' : World} {g n : Nat} {zs : List Nat} (h : FRow w g n zs) (hb : Below w.heap.size w w') : FRow w' g n zs :=
  ⟨Nat.lt_of_lt_of_le h.1 hb.size, h.2.1, fun i hi => (hb.cell (p := ⟨g, i, none⟩) h.1).trans (h.2.2 i hi)⟩
theorem IRow.below {w w' : World} {g n : Nat} {zs : List Int} (h : IRow w g n zs) (hb : Below w.heap.size w w') : IRow w' g n zs :=
  ⟨Nat.lt_of_lt_of_le h.1 hb.size, h.2.1, fun i hi => (hb.cell (p := ⟨g, i, none⟩) h.1).trans (h.2.2 i hi)⟩
theorem CameF.below {w w' : World} {a : Option Addr} {n : Nat} {zs : List Nat} (h : CameF w a n zs) (hb : Below w.heap.size w w') : CameF w' a n zs := by
  rcases h with h | ⟨x, h1, h2, h3⟩
  · exact .inl h
  · exact .inr ⟨x, h1, h2, fun i hi => (hb.cell (World.block_lt_of_cell? _ _ (h3 i hi))).trans (h3 i hi)⟩
theorem CameI.below {w w' : World} {a : Option Addr} {n : Nat} {zs : List Int} (h : CameI w a n zs) (hb : Below w.heap.size w w') : CameI w' a n zs := by
  rcases h with h | ⟨x, h1, h2, h3⟩
  · exact .inl h
  · exact .inr ⟨x, h1, h2, fun i hi => (hb.cell (World.block_lt_of_cell? _ _ (h3 i hi))).trans (h3 i hi)⟩

theorem Trym.info22 : (Trym.prog.info? 22).map (fun i => (i.zero, i.size, i.bytes)) = some (some (.float .f64 0), 1, 8) := by kernel_rfl
theorem Trym.info3 : (Trym.prog.info? 3).map (fun i => (i.zero, i.size, i.bytes)) = some (some (.int .i64 0), 1, 8) := by kernel_rfl
theorem Trym.size22 : (Trym.prog.info? 22).map (·.size) = some 1 := by kernel_rfl
theorem Trym.size3 : (Trym.prog.info? 3).map (·.size) = some 1 := by kernel_rfl

/-- What lies in the row behind the copy. -/
theorem row_after {w : World} {g : Nat} {e : TypeId} {cur : Array Value} (hg : w.heap[g]? = some (.cells cur e (0, 0))) (cs more : List Value) (i : Nat) (hi : i < cs.length) :
    (w.setRow g (cs ++ more).toArray).cell? ⟨g, i, none⟩ = cs[i]? := by
  rw [cell_of_row _ g i _ e (0, 0) (setRow_heap w g cur _ e _ hg)]
  simp [List.getElem?_append_left hi]

set_option maxHeartbeats 400000 in
theorem copyf_nil (c : Nat) (w : World) : Calls Trym.prog 14 #[.slice none 0 c] w fun e w' => e = .returned (.slice none 0 0) ∧ w' = w := by
  have hne := @Lib.run_eql_slice_nil Trym.prog
  go_enter Trym.func14, Trym.ntmps14
  go_wp2
  go_ret
  exact ⟨rfl, rfl⟩
set_option maxHeartbeats 400000 in
theorem copyf_some (x : Addr) (n cap : Nat) (zs : List Nat) (w : World) (hn : n ≤ 65536) (hl : zs.length = n) (hc : ∀ i, i < n → w.cell? (x.add i) = some (.float .f64 (zs.getD i 0))) :
    Calls Trym.prog 14 #[.slice (some x) n cap] w fun e w' => e = .returned (.slice (some ⟨w.heap.size, 0, none⟩) n n) ∧ FRow w' w.heap.size n zs ∧ Below w.heap.size w w' := by
  obtain ⟨i0, hi, hz0, hz1, hz2⟩ := info_parts Trym.info22
  have hne := @Lib.run_eql_slice_nil Trym.prog
  go_enter Trym.func14, Trym.ntmps14
  go_wp2_with (first | (refine wpList_make_full _ rfl (.tmp 7) (.tmp 7) 29 rfl w.heap.size 22 i0 (.float .f64 0) 1 Trym.underlying29 hi hz0 hz1 .i64 .i64 _ _ n rfl rfl rfl rfl (by rw [hz2]; omega) (by unfold maxLen; omega) (Nat.le_refl _) ?_; intro w1 hown hgrow; obtain ⟨cur, hg, hcs⟩ := owns_block hown; have hbel : Below w.heap.size w w1 := (Below.refl _ _).grown hgrow (Nat.le_refl _) (by simp); have HG := hide hg; have HB := hide hbel; have HL := hide (hown.lt w.heap.size rfl).2; clear hown hgrow hg hbel) | (refine wpList_copy_own rfl (.tmp 9) (.tmp 10) 29 29 rfl 22 Trym.underlying29 Trym.size22 w.heap.size 0 n n x n cap rfl rfl cur 22 HG.out (zs.map (Value.float .f64)) (by simp [hl]) ?hsrc (by simp [hl, hcs]) ?hone ?_))
  case hsrc =>
    intro j v hj
    have hjn : j < n := by
      rcases Nat.lt_or_ge j n with h | h
      · exact h
      · simp [List.getElem?_eq_none (show zs.length ≤ j by omega)] at hj
    rw [HB.out.cell (World.block_lt_of_cell? _ _ (hc j hjn)), hc j hjn]
    simpa [List.getD, show j < zs.length by omega] using hj
  case hone => intro v hv; simp at hv; obtain ⟨z, _, rfl⟩ := hv; rfl
  go_wp2
  go_ret
  refine ⟨rfl, ⟨?_, hl, fun i hi => ?_⟩, below_setRow HB.out (Nat.le_refl _) _⟩
  · have := HL.out; simpa [World.setRow] using this
  · rw [row_after HG.out (zs.map (Value.float .f64)) _ i (by simp [hl]; exact hi)]
    simp [List.getD, show i < zs.length by omega]

set_option maxHeartbeats 400000 in
theorem copyi_nil (c : Nat) (w : World) : Calls Trym.prog 15 #[.slice none 0 c] w fun e w' => e = .returned (.slice none 0 0) ∧ w' = w := by
  have hne := @Lib.run_eql_slice_nil Trym.prog
  go_enter Trym.func15, Trym.ntmps15
  go_wp2
  go_ret
  exact ⟨rfl, rfl⟩
set_option maxHeartbeats 400000 in
theorem copyi_some (x : Addr) (n cap : Nat) (zs : List Int) (w : World) (hn : n ≤ 65536) (hl : zs.length = n) (hc : ∀ i, i < n → w.cell? (x.add i) = some (.int .i64 (zs.getD i 0))) :
    Calls Trym.prog 15 #[.slice (some x) n cap] w fun e w' => e = .returned (.slice (some ⟨w.heap.size, 0, none⟩) n n) ∧ IRow w' w.heap.size n zs ∧ Below w.heap.size w w' := by
  obtain ⟨i0, hi, hz0, hz1, hz2⟩ := info_parts Trym.info3
  have hne := @Lib.run_eql_slice_nil Trym.prog
  go_enter Trym.func15, Trym.ntmps15
  go_wp2_with (first | (refine wpList_make_full _ rfl (.tmp 7) (.tmp 7) 37 rfl w.heap.size 3 i0 (.int .i64 0) 1 Trym.underlying37 hi hz0 hz1 .i64 .i64 _ _ n rfl rfl rfl rfl (by rw [hz2]; omega) (by unfold maxLen; omega) (Nat.le_refl _) ?_; intro w1 hown hgrow; obtain ⟨cur, hg, hcs⟩ := owns_block hown; have hbel : Below w.heap.size w w1 := (Below.refl _ _).grown hgrow (Nat.le_refl _) (by simp); have HG := hide hg; have HB := hide hbel; have HL := hide (hown.lt w.heap.size rfl).2; clear hown hgrow hg hbel) | (refine wpList_copy_own rfl (.tmp 9) (.tmp 10) 37 37 rfl 3 Trym.underlying37 Trym.size3 w.heap.size 0 n n x n cap rfl rfl cur 3 HG.out (zs.map (Value.int .i64)) (by simp [hl]) ?hsrc (by simp [hl, hcs]) ?hone ?_))
  case hsrc =>
    intro j v hj
    have hjn : j < n := by
      rcases Nat.lt_or_ge j n with h | h
      · exact h
      · simp [List.getElem?_eq_none (show zs.length ≤ j by omega)] at hj
    rw [HB.out.cell (World.block_lt_of_cell? _ _ (hc j hjn)), hc j hjn]
    simpa [List.getD, show j < zs.length by omega] using hj
  case hone => intro v hv; simp at hv; obtain ⟨z, _, rfl⟩ := hv; rfl
  go_wp2
  go_ret
  refine ⟨rfl, ⟨?_, hl, fun i hi => ?_⟩, below_setRow HB.out (Nat.le_refl _) _⟩
  · have := HL.out; simpa [World.setRow] using this
  · rw [row_after HG.out (zs.map (Value.int .i64)) _ i (by simp [hl]; exact hi)]
    simp [List.getD, show i < zs.length by omega]
end Go.Proofs.Qxb6601926aMods
