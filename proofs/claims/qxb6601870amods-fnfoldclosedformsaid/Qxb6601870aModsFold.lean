/-
  fold and ZZFold: what they compute, as one plain function of the number (foldP).
-/
import Derived.Test.Qxb6601870aModsRows
import Derived.WalkKit
import Derived.WalkSpells
import Derived.ProofKit
import Derived.Laws.BitsAllLaws
namespace Go.Proofs.Qxb6601870aMods
open Go.RowKit

theorem ret_int {k : IntKind} {a b : Int} (h : a = b) : Ending.returned (.int k a) = .returned (.int k b) := by rw [h]

/-- What fold answers: 0 at 0, else the one number of 1..65535 congruent to s modulo 65535. -/
def foldP (s : Int) : Int := if s = 0 then 0 else if s % 65535 = 0 then 65535 else s % 65535

/-- One step of fold as the walk writes it. -/
def st (d m s : Int) : Int := IntKind.u64.wrap (s / d + bits .and .u64 s m)

theorem st32 (s : Int) (h0 : 0 ≤ s) (h1 : s < 18446744073709551616) : st 4294967296 4294967295 s = s / 4294967296 + s % 4294967296 := by
  unfold st
  rw [u64_and s 4294967295 h0 h1 (by decide) (by decide), IntKind.wrap_u64]
  have e : s.toNat &&& (4294967295 : Int).toNat = s.toNat % 4294967296 := Nat.and_two_pow_sub_one_eq_mod s.toNat 32
  rw [e]
  omega
theorem st16 (s : Int) (h0 : 0 ≤ s) (h1 : s < 18446744073709551616) : st 65536 65535 s = s / 65536 + s % 65536 := by
  unfold st
  rw [u64_and s 65535 h0 h1 (by decide) (by decide), IntKind.wrap_u64]
  have e : s.toNat &&& (65535 : Int).toNat = s.toNat % 65536 := Nat.and_two_pow_sub_one_eq_mod s.toNat 16
  rw [e]
  omega

theorem fold_plain (s : Int) (h0 : 0 ≤ s) (h1 : s < 18446744073709551616) :
    IntKind.u16.wrap (st 65536 65535 (st 65536 65535 (st 65536 65535 (st 4294967296 4294967295 s)))) = foldP s := by
  rw [st32 s h0 h1]
  generalize ha : s / 4294967296 + s % 4294967296 = a
  have a0 : 0 ≤ a := by omega
  have a1 : a ≤ 8589934590 := by omega
  have az : a = 0 ↔ s = 0 := by omega
  have am : a % 65535 = s % 65535 := by omega
  rw [st16 a a0 (by omega)]
  generalize hb : a / 65536 + a % 65536 = b
  have b0 : 0 ≤ b := by omega
  have b1 : b ≤ 196606 := by omega
  have bz : b = 0 ↔ a = 0 := by omega
  have bm : b % 65535 = a % 65535 := by omega
  rw [st16 b b0 (by omega)]
  generalize hc : b / 65536 + b % 65536 = c
  have c0 : 0 ≤ c := by omega
  have c1 : c ≤ 65537 := by omega
  have cz : c = 0 ↔ b = 0 := by omega
  have cm : c % 65535 = b % 65535 := by omega
  rw [st16 c c0 (by omega)]
  generalize hd : c / 65536 + c % 65536 = d
  have d0 : 0 ≤ d := by omega
  have d1 : d ≤ 65535 := by omega
  have dz : d = 0 ↔ c = 0 := by omega
  have dm : d % 65535 = c % 65535 := by omega
  clear ha hb hc hd
  rw [IntKind.wrap_u16]
  unfold foldP
  split
  · omega
  · split <;> omega

set_option maxHeartbeats 400000 in
theorem fold_any (s : Int) (h0 : 0 ≤ s) (h1 : s < 18446744073709551616) (w : World) :
    Calls Trym.prog 13 #[.int .u64 s] w fun e w' => e = .returned (.int .u16 (foldP s)) ∧ w' = w := by
  have hf : Hid (IntKind.u16.wrap (st 65536 65535 (st 65536 65535 (st 65536 65535 (st 4294967296 4294967295 s)))) = foldP s) := fold_plain s h0 h1
  go_enter Trym.func13, Trym.ntmps13
  go_wp2
  go_ret
  exact ⟨ret_int hf.out, rfl⟩

set_option maxHeartbeats 400000 in
theorem zzfold_any (s : Int) (h0 : 0 ≤ s) (h1 : s < 18446744073709551616) (w : World) :
    Calls Trym.prog 11 #[.int .u64 s] w fun e w' => e = .returned (.int .u16 (foldP s)) ∧ w' = w := by
  go_enter Trym.func11, Trym.ntmps11
  go_wp2_with (go_at_call 13; refine (fold_any s h0 h1 _).mono ?_; rintro e w' ⟨rfl, rfl⟩)
  go_ret
  exact ⟨rfl, rfl⟩

theorem foldP_bd (s : Int) : 0 ≤ foldP s ∧ foldP s ≤ 65535 := by
  unfold foldP; split
  · omega
  · split <;> omega
theorem foldP_small (s : Int) (h0 : 0 ≤ s) (h1 : s ≤ 65535) : foldP s = s := by
  unfold foldP; split
  · omega
  · split <;> omega
end Go.Proofs.Qxb6601870aMods
