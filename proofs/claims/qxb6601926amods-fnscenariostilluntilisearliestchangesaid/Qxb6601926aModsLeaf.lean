/-
  The leaves: zzSameF, zzCopyPtr, (*Spread).stillUntil, ZZSpreadStillUntil, zzSpreadOf.
-/
import Derived.Test.Qxb6601926aModsRows
import Derived.Test.Qxb6601926aModsOrd
import Derived.WalkKit
import Derived.WalkSpells
import Derived.WalkLawsBesides
import Derived.ProofKit
import Derived.Below
namespace Go.Proofs.Qxb6601926aMods
open Go.RowKit

/-- A store of a float (the kit's walk has this law for the other kinds of cell). -/
theorem run_store_float (P : Program) (w : World) (a : Addr) (m : Mode) (k : FloatKind) (n : Nat) : (store a (.float k n) m).run P w = stored P w a (.float k n) m := run_store P w a _ m rfl
attribute [local go_sem] run_store_float

theorem hide {p : Prop} (h : p) : Hid p := h
theorem ret_bool {a b : Bool} (h : a = b) : Ending.returned (.bool a) = .returned (.bool b) := by rw [h]
theorem ret_float {a b : Nat} (h : a = b) : Ending.returned (.float .f64 a) = .returned (.float .f64 b) := by rw [h]
theorem bstep {B : Nat} {w w1 w2 : World} (h : Below B w w1) (hB : B ≤ w.heap.size) (k : Below w1.heap.size w1 w2) : Below B w w2 := h.trans (k.mono (Nat.le_trans hB h.size))

set_option maxHeartbeats 400000 in
theorem samef_any (a b : Nat) (w : World) :
    Calls Trym.prog 11 #[.float .f64 a, .float .f64 b] w fun e w' => e = .returned (.bool (Fo.sameF a b)) ∧ w' = w := by
  cases h1 : (FloatKind.f64.format.order a b == some .eq)
  · cases h2 : (FloatKind.f64.format.order a a != some .eq)
    · have hf : Hid (false = Fo.sameF a b) := hide (by unfold Fo.sameF; rw [h1, h2]; rfl)
      go_enter Trym.func11, Trym.ntmps11
      go_wp2
      go_ret
      exact ⟨ret_bool hf.out, rfl⟩
    · have hf : Hid ((FloatKind.f64.format.order b b != some .eq) = Fo.sameF a b) := hide (by unfold Fo.sameF; rw [h1, h2, Bool.false_or, Bool.true_and])
      go_enter Trym.func11, Trym.ntmps11
      go_wp2
      go_ret
      exact ⟨ret_bool hf.out, rfl⟩
  · have hf : Hid (true = Fo.sameF a b) := hide (by unfold Fo.sameF; rw [h1, Bool.true_or])
    go_enter Trym.func11, Trym.ntmps11
    go_wp2
    go_ret
    exact ⟨ret_bool hf.out, rfl⟩

/-! ### zzCopyPtr -/
set_option maxHeartbeats 400000 in
theorem copyptr_nil (w : World) :
    Calls Trym.prog 8 #[.pointer none] w fun e w' => e = .returned (.pointer none) ∧ w' = w := by
  go_enter Trym.func8, Trym.ntmps8
  go_wp2
  go_ret
  exact ⟨rfl, rfl⟩
set_option maxHeartbeats 400000 in
theorem copyptr_some (b off c : Nat) (w : World) (hc : w.cell? ⟨b, off, none⟩ = some (.float .f64 c)) :
    Calls Trym.prog 8 #[.pointer (some ⟨b, off, none⟩)] w fun e w' => e = .returned (.pointer (some ⟨w.heap.size, 0, none⟩)) ∧ w' = w.alloc (.cells #[.float .f64 c] 22) := by
  go_enter Trym.func8, Trym.ntmps8
  go_wp2
  go_ret
  exact ⟨rfl, rfl⟩

/-! ### What is known of a moment: the pointer 'movesAt', as the law holds it. -/
/-- The pointer v reads as mo: nil, or a cell of that number. -/
def Mom (w : World) (v : Value) (mo : Option Nat) : Prop :=
  (mo = none ∧ v = .pointer none) ∨ ∃ c b, mo = some c ∧ v = .pointer (some ⟨b, 0, none⟩) ∧ b < w.heap.size ∧ w.cell? ⟨b, 0, none⟩ = some (.float .f64 c)
theorem Mom.below {w w' : World} {v : Value} {mo : Option Nat} (h : Mom w v mo) (hb : Below w.heap.size w w') : Mom w' v mo := by
  rcases h with ⟨h1, h2⟩ | ⟨c, b, h1, h2, h3, h4⟩
  · exact .inl ⟨h1, h2⟩
  · exact .inr ⟨c, b, h1, h2, Nat.lt_of_lt_of_le h3 hb.size, (hb.cell (p := ⟨b, 0, none⟩) h3).trans h4⟩

/-- The pointer that comes in. -/
def Came (w : World) (v : Value) (mo : Option Nat) : Prop :=
  (mo = none ∧ v = .pointer none) ∨ ∃ c b off, mo = some c ∧ v = .pointer (some ⟨b, off, none⟩) ∧ w.cell? ⟨b, off, none⟩ = some (.float .f64 c)

theorem copyptr_any (v : Value) (mo : Option Nat) (w : World) (h : Came w v mo) :
    Calls Trym.prog 8 #[v] w fun e w' => ∃ v', e = .returned v' ∧ Mom w' v' mo ∧ Below w.heap.size w w' := by
  rcases h with ⟨rfl, rfl⟩ | ⟨c, b, off, rfl, rfl, hc⟩
  · refine (copyptr_nil w).mono ?_
    rintro e w' ⟨rfl, rfl⟩
    exact ⟨_, rfl, .inl ⟨rfl, rfl⟩, Below.refl _ _⟩
  · refine (copyptr_some b off c w hc).mono ?_
    rintro e w' ⟨rfl, rfl⟩
    exact ⟨_, rfl, .inr ⟨c, w.heap.size, rfl, rfl, by simp, by simp [go_sem]⟩, (Below.refl _ _).alloc (Nat.le_refl _) _⟩

/-! ### stillUntil of a Spread -/
/-- What (*Spread).stillUntil answers. -/
def till (mo : Option Nat) (f t : Nat) : Nat :=
  match mo with
  | none => t
  | some c => if Fo.ltB f c = true ∧ Fo.ltB c t = true then c else t

set_option maxHeartbeats 800000 in
theorem until_any (bs os : Nat) (v : Value) (mo : Option Nat) (f t : Nat) (w : World) (hv : w.cell? ⟨bs, os + 3, none⟩ = some v) (hm : Mom w v mo) :
    Calls Trym.prog 20 #[.pointer (some ⟨bs, os, none⟩), .float .f64 f, .float .f64 t] w fun e w' => e = .returned (.float .f64 (till mo f t)) ∧ w' = w := by
  rcases hm with ⟨rfl, rfl⟩ | ⟨c, b, rfl, rfl, hb, hc⟩
  · go_enter Trym.func20, Trym.ntmps20
    go_wp2
    go_ret
    exact ⟨rfl, rfl⟩
  · cases h1 : (FloatKind.f64.format.order f c == some .lt)
    · have hf : Hid (t = till (some c) f t) := hide (by unfold till Fo.ltB; simp [h1])
      go_enter Trym.func20, Trym.ntmps20
      go_wp2
      go_ret
      exact ⟨ret_float hf.out, rfl⟩
    · cases h2 : (FloatKind.f64.format.order c t == some .lt)
      · have hf : Hid (t = till (some c) f t) := hide (by unfold till Fo.ltB; simp [h2])
        go_enter Trym.func20, Trym.ntmps20
        go_wp2
        go_ret
        exact ⟨ret_float hf.out, rfl⟩
      · have hf : Hid (c = till (some c) f t) := hide (by unfold till Fo.ltB; simp [h1, h2])
        go_enter Trym.func20, Trym.ntmps20
        go_wp2
        go_ret
        exact ⟨ret_float hf.out, rfl⟩

set_option maxHeartbeats 400000 in
theorem zzuntil_any (bs os : Nat) (v : Value) (mo : Option Nat) (f t : Nat) (w : World) (hv : w.cell? ⟨bs, os + 3, none⟩ = some v) (hm : Mom w v mo) :
    Calls Trym.prog 12 #[.pointer (some ⟨bs, os, none⟩), .float .f64 f, .float .f64 t] w fun e w' => e = .returned (.float .f64 (till mo f t)) ∧ w' = w := by
  go_enter Trym.func12, Trym.ntmps12
  go_wp2_with (go_at_call 20; refine (until_any bs os v mo f t _ hv hm).mono ?_; rintro e w' ⟨rfl, rfl⟩)
  go_ret
  exact ⟨rfl, rfl⟩
end Go.Proofs.Qxb6601926aMods
