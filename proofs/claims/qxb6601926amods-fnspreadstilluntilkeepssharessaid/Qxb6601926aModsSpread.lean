/-
  zzSpreadOf, ZZSpreadShares: one contract for every kind and every moment.
-/
import Derived.Test.Qxb6601926aModsZones
namespace Go.Proofs.Qxb6601926aMods
open Go.RowKit
attribute [local go_sem] run_store_float

/-- zzSpreadOf: the struct, field by field; one new block. -/
theorem spreadof_any (kind hh : Int) (share : Nat) (v : Option Addr) (w : World) :
    Calls Trym.prog 9 #[.int .i64 kind, .int .i64 hh, .float .f64 share, .pointer v] w fun e w' =>
      e = .returned (.agg #[.int .i64 kind, .int .i64 hh, .float .f64 share, .pointer v]) ∧ ∃ c : Array Value, w' = w.alloc (.cells c 27) := by
  go_enter Trym.func9, Trym.ntmps9
  go_wp2
  simp [bodyPost, results, Trym.results9, go_sem]
  exact ⟨_, rfl⟩

/-- Have the hot hosts moved at t? -/
def moved (mo : Option Nat) (t : Nat) : Bool :=
  match mo with
  | none => false
  | some c => Fo.geB t c
/-- The class of host h's part at t. -/
def shareC (kind hh : Int) (share : Nat) (mo : Option Nat) (t n h : Nat) : Option Nat :=
  if kind = 1 then evenC n else zoneC (if moved mo t = true then wrap64 (n - hh) else 0) hh share n h

/-- A Spread in memory. -/
def SpIs (w : World) (bs os : Nat) (kind hh : Int) (share : Nat) (mo : Option Nat) : Prop :=
  bs < w.heap.size ∧ w.cell? ⟨bs, os, none⟩ = some (.int .i64 kind) ∧ w.cell? ⟨bs, os + 1, none⟩ = some (.int .i64 hh) ∧ w.cell? ⟨bs, os + 2, none⟩ = some (.float .f64 share) ∧
    ∃ v, w.cell? ⟨bs, os + 3, none⟩ = some v ∧ Mom w v mo
theorem SpIs.below {w w' : World} {bs os : Nat} {kind hh : Int} {share : Nat} {mo : Option Nat} (h : SpIs w bs os kind hh share mo) (hb : Below w.heap.size w w') : SpIs w' bs os kind hh share mo := by
  obtain ⟨h0, h1, h2, h3, v, h4, h5⟩ := h
  exact ⟨Nat.lt_of_lt_of_le h0 hb.size, (hb.cell (p := ⟨bs, os, none⟩) h0).trans h1, (hb.cell (p := ⟨bs, os + 1, none⟩) h0).trans h2, (hb.cell (p := ⟨bs, os + 2, none⟩) h0).trans h3, v, (hb.cell (p := ⟨bs, os + 3, none⟩) h0).trans h4, h5.below hb⟩

theorem Part.congr {w : World} {g n k : Nat} {c c' : Nat → Option Nat} (h : Part w g n k c) (e : ∀ i, c i = c' i) : Part w g n k c' := by
  obtain ⟨xs, h1, h2, h3⟩ := h
  exact ⟨xs, h1, h2, fun i hi => by obtain ⟨r, a, b⟩ := h3 i hi; exact ⟨r, a, e i ▸ b⟩⟩

theorem shares_any (bs os n t : Nat) (kind hh : Int) (share : Nat) (mo : Option Nat) (w : World) (hn : n ≤ 65536) (h : SpIs w bs os kind hh share mo) :
    Calls Trym.prog 19 #[.pointer (some ⟨bs, os, none⟩), .int .i64 n, .float .f64 t] w fun e w' => e = .returned (.slice (some ⟨w.heap.size, 0, none⟩) n n) ∧ Part w' w.heap.size n n (shareC kind hh share mo t n) ∧ Below w.heap.size w w' := by
  obtain ⟨h0, h1, h2, h3, v, h4, h5⟩ := h
  by_cases hk : kind = 1
  · subst hk
    refine (shares_even bs os n t w hn h1 h0).mono ?_
    rintro e w' ⟨he, hp, hb⟩
    exact ⟨he, hp.congr fun i => by unfold shareC; rw [if_pos rfl], hb⟩
  · have hk' : (kind == 1) = false := by simpa using hk
    rcases h5 with ⟨rfl, rfl⟩ | ⟨c, b, rfl, rfl, hb, hc⟩
    · refine (shares_nil bs os n t share kind hh w hn h1 hk' h2 h3 h4 h0).mono ?_
      rintro e w' ⟨he, hp, hb⟩
      exact ⟨he, hp.congr fun i => by unfold shareC; rw [if_neg hk, if_neg (by simp [moved])], hb⟩
    · cases hg : Fo.geB t c
      · refine (shares_before bs os n t share b c kind hh w hn h1 hk' h2 h3 h4 h0 hb hc hg).mono ?_
        rintro e w' ⟨he, hp, hb⟩
        exact ⟨he, hp.congr fun i => by unfold shareC; rw [if_neg hk, if_neg (by simp [moved, hg])], hb⟩
      · refine (shares_after bs os n t share b c kind hh w hn h1 hk' h2 h3 h4 h0 hb hc hg).mono ?_
        rintro e w' ⟨he, hp, hb⟩
        exact ⟨he, hp.congr fun i => by unfold shareC; rw [if_neg hk, if_pos (by simp [moved, hg])], hb⟩

/-- A row of floats, each of its class. -/
def Floats (w : World) (g n : Nat) (c : Nat → Option Nat) : Prop := g < w.heap.size ∧ ∀ h, h < n → ∃ r, w.cell? ⟨g, h, none⟩ = some (.float .f64 r) ∧ Cls (c h) r
theorem Floats.below {w w' : World} {g n : Nat} {c : Nat → Option Nat} (h : Floats w g n c) (hb : Below w.heap.size w w') : Floats w' g n c :=
  ⟨Nat.lt_of_lt_of_le h.1 hb.size, fun i hi => by obtain ⟨r, a, b⟩ := h.2 i hi; exact ⟨r, (hb.cell (p := ⟨g, i, none⟩) h.1).trans a, b⟩⟩
theorem Part.floats {w : World} {g n : Nat} {c : Nat → Option Nat} (h : Part w g n n c) : Floats w g n c := by
  refine ⟨h.lt, fun i hi => ?_⟩
  obtain ⟨xs, h1, h2, h3⟩ := h
  obtain ⟨r, a, b⟩ := h3 i hi
  exact ⟨r, by rw [h1.cellAt i (by omega)]; simp [a], b⟩

set_option maxHeartbeats 400000 in
theorem zzshares_any (bs os n t : Nat) (kind hh : Int) (share : Nat) (mo : Option Nat) (w : World) (hn : n ≤ 65536) (h : SpIs w bs os kind hh share mo) :
    Calls Trym.prog 10 #[.pointer (some ⟨bs, os, none⟩), .int .i64 n, .float .f64 t] w fun e w' => e = .returned (.slice (some ⟨w.heap.size, 0, none⟩) n n) ∧ Floats w' w.heap.size n (shareC kind hh share mo t n) ∧ Below w.heap.size w w' := by
  go_enter Trym.func10, Trym.ntmps10
  go_wp2_with (go_at_call 19; refine (shares_any bs os n t kind hh share mo _ hn h).mono ?_; rintro e w' ⟨rfl, hp, hb⟩)
  go_ret
  exact ⟨rfl, hp.floats, hb⟩

theorem samef_yes (a b : Nat) (w : World) (h : Fo.sameF a b = true) :
    Calls Trym.prog 11 #[.float .f64 a, .float .f64 b] w fun e w' => e = .returned (.bool true) ∧ w' = w :=
  (samef_any a b w).mono fun _ _ ⟨he, hw⟩ => ⟨by rw [he, h], hw⟩
end Go.Proofs.Qxb6601926aMods
