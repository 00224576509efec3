/-
  zzCopyBytes: a fresh copy of a slice of bytes that is not nil.
-/
import Derived.Test.Qxb6601870aModsRows
import Derived.WalkKit
import Derived.WalkSpells
import Derived.WalkLawsBesides
import Derived.ProofKit
import Derived.Below
namespace Go.Proofs.Qxb6601870aMods
open Go.RowKit

/-- A row of bytes of the call's own: block b, from its head on, not cut. -/
def Row (w : World) (b l : Nat) (zs : List Int) : Prop := b < w.heap.size ∧ zs.length = l ∧ ∀ i, i < l → w.cell? ⟨b, i, none⟩ = some (.int .u8 (zs.getD i 0))

theorem Row.below {w w' : World} {b l : Nat} {zs : List Int} (h : Row w b l zs) (hb : Below w.heap.size w w') : Row w' b l zs :=
  ⟨Nat.lt_of_lt_of_le h.1 hb.size, h.2.1, fun i hi => (hb.cell (p := ⟨b, i, none⟩) h.1).trans (h.2.2 i hi)⟩

/-- The new row behind k rounds of the copying loop. -/
def cp (zs : List Int) (n k : Nat) : List Value := (List.range n).map fun i => Value.int .u8 (if i < k then zs.getD i 0 else 0)

theorem cp_start (zs : List Int) (n : Nat) : (madeCells (Value.int .u8 0).cells (n * 1)).toList = cp zs n 0 := by
  unfold madeCells cp
  rw [Nat.mul_one]
  apply List.ext_getElem?
  intro i
  by_cases h : i < n
  · simp [h, Value.cells, Nat.mod_one]
  · simp [h]
theorem cp_len (zs : List Int) (n k : Nat) : (cp zs n k).length = n := by simp [cp]
theorem cp_at (zs : List Int) (n k i : Nat) (h : i < n) : (cp zs n k)[i]? = some (Value.int .u8 (if i < k then zs.getD i 0 else 0)) := by
  simp [cp, h]
theorem cp_step (zs : List Int) (n k : Nat) : (cp zs n k).set k (.int .u8 (zs.getD k 0)) = cp zs n (k + 1) := by
  apply List.ext_getElem?
  intro i
  by_cases h : i < n
  · rw [cp_at zs n (k + 1) i h, List.getElem?_set]
    by_cases hk : k = i
    · subst hk; rw [if_pos rfl, cp_len, if_pos h, if_pos (by omega)]
    · rw [if_neg hk, cp_at zs n k i h]
      by_cases h2 : i < k
      · rw [if_pos h2, if_pos (by omega)]
      · rw [if_neg h2, if_neg (by omega)]
  · rw [List.getElem?_eq_none (by simp [cp_len]; omega), List.getElem?_eq_none (by simp [cp_len]; omega)]

theorem Trym.info5 : (Trym.prog.info? 5).map (fun i => (i.zero, i.size, i.bytes)) = some (some (.int .u8 0), 1, 1) := by kernel_rfl

theorem made_cell {w : World} {base g n cap k : Nat} {zs : List Int} (h : w.ownsRow base 5 1 (.slice (some ⟨g, 0, none⟩) n cap) n (cp zs n k)) (hk : k < n) : w.cell? ⟨g, k, none⟩ = some (.int .u8 0) := by
  rw [h.cellAt k (by omega), cp_at zs n k k hk, if_neg (by omega)]

theorem made_store {w wr : World} {n k : Nat} {zs : List Int} (h : wr.ownsRow w.heap.size 5 1 (.slice (some ⟨w.heap.size, 0, none⟩) n n) n (cp zs n k)) (hb : Below w.heap.size w wr) :
    (wr.setCell ⟨w.heap.size, k, none⟩ (.int .u8 (zs.getD k 0))).ownsRow w.heap.size 5 1 (.slice (some ⟨w.heap.size, 0, none⟩) n n) n (cp zs n (k + 1)) ∧ Below w.heap.size w (wr.setCell ⟨w.heap.size, k, none⟩ (.int .u8 (zs.getD k 0))) := by
  refine ⟨?_, hb.setCell (Nat.le_refl _) _⟩
  rw [← cp_step]
  exact (h.stored k _).1

theorem made_row {w w' : World} {n cap : Nat} {zs : List Int} (hz : n ≤ zs.length) (h : w'.ownsRow w.heap.size 5 1 (.slice (some ⟨w.heap.size, 0, none⟩) n cap) n (cp zs n n)) (hs : w.heap.size < w'.heap.size) : Row w' w.heap.size n (zs.take n) := by
  refine ⟨hs, by simp; omega, fun i hi => ?_⟩
  rw [h.cellAt i (by omega), cp_at zs n n i hi, if_pos hi]
  simp [List.getD, hi]

set_option maxHeartbeats 400000 in
theorem copy_any (b off len cap : Nat) (zs : List Int) (w : World) (hl : len ≤ zs.length) (hm : len ≤ 1048576)
    (hc : ∀ i, i < zs.length → w.cell? ⟨b, off + i, none⟩ = some (.int .u8 (zs.getD i 0))) (hbB : b < w.heap.size) :
    Calls Trym.prog 9 #[.slice (some ⟨b, off, none⟩) len cap] w fun e w' => e = .returned (.slice (some ⟨w.heap.size, 0, none⟩) len len) ∧ Row w' w.heap.size len (zs.take len) ∧ Below w.heap.size w w' := by
  obtain ⟨i0, hi, hz0, hz1, hz2⟩ := info_parts Trym.info5
  have hne := @Lib.run_eql_slice_nil Trym.prog
  go_enter Trym.func9, Trym.ntmps9
  go_wp2_with (first | (refine wpList_make_full _ rfl (.tmp 8) (.tmp 8) 22 rfl w.heap.size 5 i0 (.int .u8 0) 1 Trym.underlying22 hi hz0 hz1 .i64 .i64 _ _ len rfl rfl rfl rfl (by rw [hz2]; omega) (by unfold maxLen; omega) (Nat.le_refl _) ?_; intro w1 hown hgrow))
  rw [cp_start zs len] at hown
  have hbel : Below w.heap.size w w1 := (Below.refl _ _).grown hgrow (Nat.le_refl _) (by simp)
  have hsz : w.heap.size < w1.heap.size := (hown.lt w.heap.size rfl).2
  clear hgrow
  go_loopw [4] (fun i wr => ∃ k : Nat, k ≤ len ∧ i = .int .i64 k ∧ wr.ownsRow w.heap.size 5 1 (.slice (some ⟨w.heap.size, 0, none⟩) len len) len (cp zs len k) ∧ Below w.heap.size w wr) (fun i _ => len - (intOf i).toNat)
  case atStart => exact ⟨0, Nat.zero_le _, rfl, hown, hbel⟩
  case round =>
    clear hown hbel hsz
    obtain ⟨k, hk, rfl, hown, hbel⟩ := hrel
    by_cases hlt : k < len
    · have c1 : wr.cell? ⟨b, off + k, none⟩ = some (.int .u8 (zs.getD k 0)) := (hbel.cell (by exact hbB)).trans (hc k (by omega))
      have c2 := made_cell hown hlt
      have c3 := hown.frozenAt k
      have R := made_store hown hbel
      have HR : Hid _ := R
      clear R hown hc
      go_wp2
      go_roundw
      case rel => exact ⟨k + 1, by omega, by go_num, HR.out.1, HR.out.2⟩
      case measure => simp [intOf]; omega
    · have hkl : k = len := by omega
      subst hkl
      have hs : w.heap.size < wr.heap.size := (hown.lt w.heap.size rfl).2
      have hR := made_row hl hown hs
      clear hown hc
      go_wp2
      go_ret
      exact ⟨rfl, hR, hbel⟩
end Go.Proofs.Qxb6601870aMods
