/-
  (*Spread).shares: the parts, host by host, each by its class.
-/
import Derived.Test.Qxb6601926aModsNan
import Derived.BigRegion
namespace Go.Proofs.Qxb6601926aMods
open Go.RowKit
attribute [local go_sem] run_store_float

/-- The new row: the first k cells are of their classes. -/
def Part (w : World) (g n k : Nat) (c : Nat → Option Nat) : Prop :=
  ∃ xs : List Nat, w.ownsRow g 22 1 (.slice (some ⟨g, 0, none⟩) n n) n (xs.map (Value.float .f64)) ∧ xs.length = n ∧ ∀ i, i < k → ∃ r, xs[i]? = some r ∧ Cls (c i) r

theorem Part.step {w : World} {g n k r : Nat} {c : Nat → Option Nat} (h : Part w g n k c) (hk : k < n) (hr : Cls (c k) r) : Part (w.setCell ⟨g, k, none⟩ (.float .f64 r)) g n (k + 1) c := by
  obtain ⟨xs, h1, h2, h3⟩ := h
  refine ⟨xs.set k r, ?_, by simpa using h2, ?_⟩
  · have := (h1.stored k (.float .f64 r)).1
    rw [List.map_set]
    exact this
  · intro i hi
    by_cases e : k = i
    · subst e
      exact ⟨r, by rw [List.getElem?_set, if_pos rfl, if_pos (by omega)], hr⟩
    · obtain ⟨q, hq, hc⟩ := h3 i (by omega)
      exact ⟨q, by rw [List.getElem?_set, if_neg e]; exact hq, hc⟩
theorem Part.drew {w : World} {g n k : Nat} {c : Nat → Option Nat} (h : Part w g n k c) : Part w.drew g n k c := by
  obtain ⟨xs, h1, h2, h3⟩ := h
  exact ⟨xs, h1.drew, h2, h3⟩
theorem Part.cell {w : World} {g n k : Nat} {c : Nat → Option Nat} (h : Part w g n k c) (hk : k < n) : (∃ r, w.cell? ⟨g, k, none⟩ = some (.float .f64 r)) ∧ w.frozen? ⟨g, k, none⟩ = false := by
  obtain ⟨xs, h1, h2, h3⟩ := h
  refine ⟨⟨xs[k]'(by omega), ?_⟩, h1.frozenAt k⟩
  rw [h1.cellAt k (by omega)]
  simp [show k < xs.length by omega]
theorem Part.start {w : World} {g n : Nat} {c : Nat → Option Nat} (h : w.ownsRow g 22 1 (.slice (some ⟨g, 0, none⟩) n n) n (madeCells (Value.float .f64 0).cells (n * 1)).toList) : Part w g n 0 c := by
  refine ⟨List.replicate n 0, ?_, by simp, fun i hi => absurd hi (Nat.not_lt_zero _)⟩
  have e : (madeCells (Value.float .f64 0).cells (n * 1)).toList = (List.replicate n 0).map (Value.float .f64) := by
    unfold madeCells
    rw [Nat.mul_one]
    apply List.ext_getElem?
    intro i
    by_cases hi : i < n
    · simp [hi, Value.cells, Nat.mod_one]
    · simp [hi]
  rw [← e]; exact h
theorem Part.lt {w : World} {g n k : Nat} {c : Nat → Option Nat} (h : Part w g n k c) : g < w.heap.size := by
  obtain ⟨xs, h1, _, _⟩ := h
  exact (h1.lt g rfl).2

theorem Trym.info22 : (Trym.prog.info? 22).map (fun i => (i.zero, i.size, i.bytes)) = some (some (.float .f64 0), 1, 8) := by kernel_rfl

/-- The class of 1 / float64(n). -/
def evenC (n : Nat) : Option Nat := floatBits .quo .f64 4607182418800017408 (floatOfInt .f64 n)

set_option maxHeartbeats 800000 in
theorem shares_even (bs os n t : Nat) (w : World) (hn : n ≤ 65536) (hk : w.cell? ⟨bs, os, none⟩ = some (.int .i64 1)) (hb : bs < w.heap.size) :
    Calls Trym.prog 19 #[.pointer (some ⟨bs, os, none⟩), .int .i64 n, .float .f64 t] w fun e w' => e = .returned (.slice (some ⟨w.heap.size, 0, none⟩) n n) ∧ Part w' w.heap.size n n (fun _ => evenC n) ∧ Below w.heap.size w w' := by
  obtain ⟨i0, hi, hz0, hz1, hz2⟩ := info_parts Trym.info22
  go_enter Trym.func19, Trym.ntmps19
  go_wp2_with (first | (refine wpList_make_full _ rfl (.tmp 11) (.tmp 11) 29 rfl w.heap.size 22 i0 (.float .f64 0) 1 Trym.underlying29 hi hz0 hz1 .i64 .i64 _ _ n rfl rfl rfl rfl (by rw [hz2]; omega) (by unfold maxLen; omega) (Nat.le_refl _) ?_; intro w1 hown hgrow; have hbel : Below w.heap.size w w1 := (Below.refl _ _).grown hgrow (Nat.le_refl _) (by simp); have hk1 : w1.cell? ⟨bs, os, none⟩ = some (.int .i64 1) := (hbel.cell (by exact hb)).trans hk))
  have hp : Part w1 w.heap.size n 0 (fun _ => evenC n) := Part.start hown
  clear hown hgrow
  go_loopw [20] (fun i wr => ∃ k : Nat, k ≤ n ∧ i = .int .i64 k ∧ Part wr w.heap.size n k (fun _ => evenC n) ∧ Below w.heap.size w wr) (fun i _ => n - (intOf i).toNat)
  case atStart => exact ⟨0, Nat.zero_le _, rfl, hp, hbel⟩
  case round =>
    clear hp hbel hk1
    obtain ⟨k, hkn, rfl, hp, hbel⟩ := hrel
    by_cases hlt : k < n
    · obtain ⟨⟨old, c1⟩, c2⟩ := hp.cell hlt
      cases hq : floatBits .quo .f64 4607182418800017408 (floatOfInt .f64 n) with
      | some r =>
        have hr := fun w => run_float_arith (P := Trym.prog) w .quo 22 .f64 _ _ _ hq
        have HP : Hid (Part (wr.setCell ⟨w.heap.size, k, none⟩ (.float .f64 r)) w.heap.size n (k + 1) (fun _ => evenC n)) := hide (hp.step hlt (.inl hq))
        have HB : Hid (Below w.heap.size w (wr.setCell ⟨w.heap.size, k, none⟩ (.float .f64 r))) := hide (hbel.setCell (Nat.le_refl _) _)
        clear hq hp hbel
        go_wp2
        go_roundw
        case rel => exact ⟨k + 1, by omega, by go_num, HP.out, HB.out⟩
        case measure => simp [intOf]; omega
      | none =>
        have hr := fun w => run_quo_nan Trym.prog w 22 _ _ hq
        have HP : Hid (Part ((wr.setCell ⟨w.heap.size, k, none⟩ (.float .f64 (nanAt wr 4607182418800017408 (floatOfInt .f64 n)))).drew) w.heap.size n (k + 1) (fun _ => evenC n)) := hide (hp.step hlt (.inr ⟨hq, nanAt_nan _ _ _⟩)).drew
        have HB : Hid (Below w.heap.size w ((wr.setCell ⟨w.heap.size, k, none⟩ (.float .f64 (nanAt wr 4607182418800017408 (floatOfInt .f64 n)))).drew)) := hide (hbel.setCell (Nat.le_refl _) _).drew
        clear hq hp hbel
        go_wp2
        go_roundw
        case rel => exact ⟨k + 1, by omega, by go_num, HP.out, HB.out⟩
        case measure => simp [intOf]; omega
    · have hkl : k = n := by omega
      subst hkl
      go_wp2
      go_ret
      exact ⟨rfl, hp, hbel⟩
end Go.Proofs.Qxb6601926aMods
