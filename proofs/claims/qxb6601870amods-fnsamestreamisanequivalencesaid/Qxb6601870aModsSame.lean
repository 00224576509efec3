/-
  sameStream and ZZSameStream over two rows of the call's own: they answer the plain 'sameB'.
-/
import Derived.Test.Qxb6601870aModsCopy
import Derived.BigQuiet
import Derived.Laws.BytesArg
namespace Go.Proofs.Qxb6601870aMods
open Go.RowKit

/-- The n bytes from place lo on, as a string. -/
def sub (zs : List Int) (lo n : Nat) : ByteArray := strOfNums ((zs.drop lo).take n)

/-- Where the addresses lie, and how many bytes they take. -/
def lo (s : Int) : Nat := if s = 40 then 8 else 12
def nn (s : Int) : Nat := if s = 40 then 32 else 8
/-- What sameStream answers. -/
def sameB (zs : List Int) (ps : Int) (ys : List Int) (qs : Int) : Bool :=
  decide (ps = qs) && ((sub zs (lo ps) (nn ps)).toList == (sub ys (lo ps) (nn ps)).toList) && ((sub zs ps.toNat 4).toList == (sub ys qs.toNat 4).toList)

theorem below3 (w : World) (o1 o2 o3 : Obj) : Below w.heap.size w (((w.alloc o1).alloc o2).alloc o3) :=
  (((Below.refl w.heap.size w).alloc (Nat.le_refl _) o1).alloc (by simp) o2).alloc (by simp; omega) o3

theorem row_conv {w : World} {b l : Nat} {zs : List Int} (h : Row w b l zs) (lo n cap : Nat) (hn : lo + n ≤ l) (o1 o2 o3 : Obj) (m : Nat) :
    (convert 22 9 (.slice (some ⟨b, lo, none⟩) n cap)).run Trym.prog ((((w.alloc o1).alloc o2).alloc o3).drewN m) = .ok (.string (sub zs lo n)) ((((w.alloc o1).alloc o2).alloc o3).drewN m) := by
  obtain ⟨hb, hl, hc⟩ := h
  refine run_convert_bytes_arg _ 22 5 Trym.underlying22 Trym.underlying5 b lo n cap ((zs.drop lo).take n) (by simp; omega) ?_ 9 Trym.underlying9
  intro i hi
  have e : ((((w.alloc o1).alloc o2).alloc o3).drewN m).cell? ⟨b, lo + i, none⟩ = w.cell? ⟨b, lo + i, none⟩ := by
    rw [World.cell?_drewN]; exact (below3 w o1 o2 o3).cell (p := ⟨b, lo + i, none⟩) hb
  rw [e, hc (lo + i) (by omega)]
  congr 2
  simp [List.getD, hi, List.getElem?_drop]

set_option maxHeartbeats 400000 in
theorem same_diff (b1 b2 l1 l2 : Nat) (ps pe pp qs qe qp : Int) (hne : (ps == qs) = false) (w : World) :
    Calls Trym.prog 12 #[.slice (some ⟨b1, 0, none⟩) l1 l1, .agg #[.int .i64 ps, .int .i64 pe, .int .i64 pp], .slice (some ⟨b2, 0, none⟩) l2 l2, .agg #[.int .i64 qs, .int .i64 qe, .int .i64 qp]] w fun e w' => e = .returned (.bool false) ∧ Below w.heap.size w w' := by
  by_cases h : ps = 40
  · subst h
    go_enter Trym.func12, Trym.ntmps12
    go_wp2
    go_quiet (fail)
    go_wp2
    go_ret
    exact ⟨rfl, below_drewN (below3 _ _ _ _) _⟩
  · have h40 : (ps == 40) = false := by simpa using h
    clear h
    go_enter Trym.func12, Trym.ntmps12
    go_wp2
    go_quiet (fail)
    go_wp2
    go_ret
    exact ⟨rfl, below_drewN (below3 _ _ _ _) _⟩

set_option maxHeartbeats 400000 in
theorem same_low (b1 b2 l1 l2 : Nat) (zs ys : List Int) (s : Nat) (pe pp qe qp : Int) (h40 : ((s : Int) == 40) = false) (w : World) (r1 : Row w b1 l1 zs) (r2 : Row w b2 l2 ys)
    (m1 : l1 ≤ 1000000) (m2 : l2 ≤ 1000000) (k1 : 20 ≤ l1) (k2 : 20 ≤ l2) (k3 : s + 4 ≤ l1) (k4 : s + 4 ≤ l2) (ha : ((sub zs 12 8).toList == (sub ys 12 8).toList) = true) :
    Calls Trym.prog 12 #[.slice (some ⟨b1, 0, none⟩) l1 l1, .agg #[.int .i64 s, .int .i64 pe, .int .i64 pp], .slice (some ⟨b2, 0, none⟩) l2 l2, .agg #[.int .i64 s, .int .i64 qe, .int .i64 qp]] w fun e w' => e = .returned (.bool ((sub zs s 4).toList == (sub ys s 4).toList)) ∧ Below w.heap.size w w' := by
  have i1 : (20 : Int) ≤ (l1 : Int) := by omega
  have i2 : (20 : Int) ≤ (l2 : Int) := by omega
  have i3 : (s : Int) + 4 ≤ (l1 : Int) := by omega
  have i4 : (s : Int) + 4 ≤ (l2 : Int) := by omega
  have j1 : ¬ l1 = 12 := by omega
  have j2 : ¬ l2 = 12 := by omega
  have j3 : ¬ l1 = s := by omega
  have j4 : ¬ l2 = s := by omega
  have c1 := row_conv r1 12 8 (l1 - 12) (by omega)
  have c2 := row_conv r2 12 8 (l2 - 12) (by omega)
  have c3 := row_conv r1 s 4 (l1 - s) (by omega)
  have c4 := row_conv r2 s 4 (l2 - s) (by omega)
  go_enter Trym.func12, Trym.ntmps12
  go_wp2
  go_quiet (fail)
  go_wp2
  go_ret
  exact ⟨rfl, below_drewN (below3 _ _ _ _) _⟩

set_option maxHeartbeats 400000 in
theorem same_low_not (b1 b2 l1 l2 : Nat) (zs ys : List Int) (s : Nat) (pe pp qe qp : Int) (h40 : ((s : Int) == 40) = false) (w : World) (r1 : Row w b1 l1 zs) (r2 : Row w b2 l2 ys)
    (m1 : l1 ≤ 1000000) (m2 : l2 ≤ 1000000) (k1 : 20 ≤ l1) (k2 : 20 ≤ l2) (ha : ((sub zs 12 8).toList == (sub ys 12 8).toList) = false) :
    Calls Trym.prog 12 #[.slice (some ⟨b1, 0, none⟩) l1 l1, .agg #[.int .i64 s, .int .i64 pe, .int .i64 pp], .slice (some ⟨b2, 0, none⟩) l2 l2, .agg #[.int .i64 s, .int .i64 qe, .int .i64 qp]] w fun e w' => e = .returned (.bool false) ∧ Below w.heap.size w w' := by
  have i1 : (20 : Int) ≤ (l1 : Int) := by omega
  have i2 : (20 : Int) ≤ (l2 : Int) := by omega
  have j1 : ¬ l1 = 12 := by omega
  have j2 : ¬ l2 = 12 := by omega
  have c1 := row_conv r1 12 8 (l1 - 12) (by omega)
  have c2 := row_conv r2 12 8 (l2 - 12) (by omega)
  go_enter Trym.func12, Trym.ntmps12
  go_wp2
  go_quiet (fail)
  go_wp2
  go_ret
  exact ⟨rfl, below_drewN (below3 _ _ _ _) _⟩

set_option maxHeartbeats 400000 in
theorem same_high (b1 b2 l1 l2 : Nat) (zs ys : List Int) (pe pp qe qp : Int) (w : World) (r1 : Row w b1 l1 zs) (r2 : Row w b2 l2 ys)
    (m1 : l1 ≤ 1000000) (m2 : l2 ≤ 1000000) (k3 : 44 ≤ l1) (k4 : 44 ≤ l2) (ha : ((sub zs 8 32).toList == (sub ys 8 32).toList) = true) :
    Calls Trym.prog 12 #[.slice (some ⟨b1, 0, none⟩) l1 l1, .agg #[.int .i64 40, .int .i64 pe, .int .i64 pp], .slice (some ⟨b2, 0, none⟩) l2 l2, .agg #[.int .i64 40, .int .i64 qe, .int .i64 qp]] w fun e w' => e = .returned (.bool ((sub zs 40 4).toList == (sub ys 40 4).toList)) ∧ Below w.heap.size w w' := by
  have i1 : (44 : Int) ≤ (l1 : Int) := by omega
  have i2 : (44 : Int) ≤ (l2 : Int) := by omega
  have j1 : ¬ l1 = 8 := by omega
  have j2 : ¬ l2 = 8 := by omega
  have j3 : ¬ l1 = 40 := by omega
  have j4 : ¬ l2 = 40 := by omega
  have c1 := row_conv r1 8 32 (l1 - 8) (by omega)
  have c2 := row_conv r2 8 32 (l2 - 8) (by omega)
  have c3 := row_conv r1 40 4 (l1 - 40) (by omega)
  have c4 := row_conv r2 40 4 (l2 - 40) (by omega)
  go_enter Trym.func12, Trym.ntmps12
  go_wp2
  go_quiet (fail)
  go_wp2
  go_ret
  exact ⟨rfl, below_drewN (below3 _ _ _ _) _⟩

set_option maxHeartbeats 400000 in
theorem same_high_not (b1 b2 l1 l2 : Nat) (zs ys : List Int) (pe pp qe qp : Int) (w : World) (r1 : Row w b1 l1 zs) (r2 : Row w b2 l2 ys)
    (m1 : l1 ≤ 1000000) (m2 : l2 ≤ 1000000) (k3 : 44 ≤ l1) (k4 : 44 ≤ l2) (ha : ((sub zs 8 32).toList == (sub ys 8 32).toList) = false) :
    Calls Trym.prog 12 #[.slice (some ⟨b1, 0, none⟩) l1 l1, .agg #[.int .i64 40, .int .i64 pe, .int .i64 pp], .slice (some ⟨b2, 0, none⟩) l2 l2, .agg #[.int .i64 40, .int .i64 qe, .int .i64 qp]] w fun e w' => e = .returned (.bool false) ∧ Below w.heap.size w w' := by
  have i1 : (44 : Int) ≤ (l1 : Int) := by omega
  have i2 : (44 : Int) ≤ (l2 : Int) := by omega
  have j1 : ¬ l1 = 8 := by omega
  have j2 : ¬ l2 = 8 := by omega
  have c1 := row_conv r1 8 32 (l1 - 8) (by omega)
  have c2 := row_conv r2 8 32 (l2 - 8) (by omega)
  go_enter Trym.func12, Trym.ntmps12
  go_wp2
  go_quiet (fail)
  go_wp2
  go_ret
  exact ⟨rfl, below_drewN (below3 _ _ _ _) _⟩

/-- sameStream: the whole contract. -/
theorem same_any (b1 l1 : Nat) (zs : List Int) (ps pe pp : Int) (b2 l2 : Nat) (ys : List Int) (qs qe qp : Int) (w : World) (r1 : Row w b1 l1 zs) (r2 : Row w b2 l2 ys)
    (m1 : l1 ≤ 1000000) (m2 : l2 ≤ 1000000) (k1 : 20 ≤ l1) (k2 : 20 ≤ l2) (p0 : 0 ≤ ps) (p1 : ps + 4 ≤ l1) (q1 : qs + 4 ≤ l2) :
    Calls Trym.prog 12 #[.slice (some ⟨b1, 0, none⟩) l1 l1, .agg #[.int .i64 ps, .int .i64 pe, .int .i64 pp], .slice (some ⟨b2, 0, none⟩) l2 l2, .agg #[.int .i64 qs, .int .i64 qe, .int .i64 qp]] w fun e w' => e = .returned (.bool (sameB zs ps ys qs)) ∧ Below w.heap.size w w' := by
  by_cases h : ps = qs
  · subst h
    by_cases h40 : ps = 40
    · subst h40
      by_cases ha : ((sub zs 8 32).toList == (sub ys 8 32).toList) = true
      · have e : sameB zs 40 ys 40 = ((sub zs 40 4).toList == (sub ys 40 4).toList) := by
          have hl : lo 40 = 8 := rfl
          have hn : nn 40 = 32 := rfl
          have ht : (40 : Int).toNat = 40 := rfl
          unfold sameB; rw [hl, hn, ha, ht]; simp
        rw [e]
        exact same_high b1 b2 l1 l2 zs ys pe pp qe qp w r1 r2 m1 m2 (by omega) (by omega) ha
      · have ha' : ((sub zs 8 32).toList == (sub ys 8 32).toList) = false := by simpa using ha
        have e : sameB zs 40 ys 40 = false := by
          have hl : lo 40 = 8 := rfl
          have hn : nn 40 = 32 := rfl
          unfold sameB; rw [hl, hn, ha']; simp
        rw [e]
        exact same_high_not b1 b2 l1 l2 zs ys pe pp qe qp w r1 r2 m1 m2 (by omega) (by omega) ha'
    · obtain ⟨s, rfl⟩ := Int.eq_ofNat_of_zero_le p0
      have h40' : ((s : Int) == 40) = false := by simpa using h40
      by_cases ha : ((sub zs 12 8).toList == (sub ys 12 8).toList) = true
      · have e : sameB zs s ys s = ((sub zs s 4).toList == (sub ys s 4).toList) := by
          have hl : lo s = 12 := by unfold lo; rw [if_neg h40]
          have hn : nn s = 8 := by unfold nn; rw [if_neg h40]
          unfold sameB; rw [hl, hn, ha]; simp
        rw [e]
        exact same_low b1 b2 l1 l2 zs ys s pe pp qe qp h40' w r1 r2 m1 m2 k1 k2 (by omega) (by omega) ha
      · have ha' : ((sub zs 12 8).toList == (sub ys 12 8).toList) = false := by simpa using ha
        have e : sameB zs s ys s = false := by
          have hl : lo s = 12 := by unfold lo; rw [if_neg h40]
          have hn : nn s = 8 := by unfold nn; rw [if_neg h40]
          unfold sameB; rw [hl, hn, ha']; simp
        rw [e]
        exact same_low_not b1 b2 l1 l2 zs ys s pe pp qe qp h40' w r1 r2 m1 m2 k1 k2 ha'
  · have e : sameB zs ps ys qs = false := by unfold sameB; rw [decide_eq_false h]; simp
    rw [e]
    exact same_diff b1 b2 l1 l2 ps pe pp qs qe qp (by simpa using h) w

set_option maxHeartbeats 400000 in
theorem zzsame_any (b1 l1 : Nat) (zs : List Int) (ps pe pp : Int) (b2 l2 : Nat) (ys : List Int) (qs qe qp : Int) (w : World) (r1 : Row w b1 l1 zs) (r2 : Row w b2 l2 ys)
    (m1 : l1 ≤ 1000000) (m2 : l2 ≤ 1000000) (k1 : 20 ≤ l1) (k2 : 20 ≤ l2) (p0 : 0 ≤ ps) (p1 : ps + 4 ≤ l1) (q1 : qs + 4 ≤ l2) :
    Calls Trym.prog 10 #[.slice (some ⟨b1, 0, none⟩) l1 l1, .int .i64 ps, .int .i64 pe, .int .i64 pp, .slice (some ⟨b2, 0, none⟩) l2 l2, .int .i64 qs, .int .i64 qe, .int .i64 qp] w fun e w' => e = .returned (.bool (sameB zs ps ys qs)) ∧ Below w.heap.size w w' := by
  go_enter Trym.func10, Trym.ntmps10
  go_wp2_with (go_at_call 12; refine (same_any b1 l1 zs ps pe pp b2 l2 ys qs qe qp _ r1 r2 m1 m2 k1 k2 p0 p1 q1).mono ?_; rintro e w' ⟨rfl, hb⟩)
  go_ret
  exact ⟨rfl, hb⟩

/-! ### The plain law: sameB is reflexive, symmetric, transitive. -/
theorem sameB_iff (zs : List Int) (ps : Int) (ys : List Int) (qs : Int) : sameB zs ps ys qs = true ↔
    ps = qs ∧ (sub zs (lo ps) (nn ps)).toList = (sub ys (lo ps) (nn ps)).toList ∧ (sub zs ps.toNat 4).toList = (sub ys qs.toNat 4).toList := by
  unfold sameB; simp [and_assoc]
theorem sameB_refl (zs : List Int) (ps : Int) : sameB zs ps zs ps = true := (sameB_iff ..).2 ⟨rfl, rfl, rfl⟩
theorem sameB_symm (zs : List Int) (ps : Int) (ys : List Int) (qs : Int) : sameB ys qs zs ps = sameB zs ps ys qs := by
  rw [Bool.eq_iff_iff, sameB_iff, sameB_iff]
  constructor
  · rintro ⟨rfl, h1, h2⟩; exact ⟨rfl, h1.symm, h2.symm⟩
  · rintro ⟨rfl, h1, h2⟩; exact ⟨rfl, h1.symm, h2.symm⟩
theorem sameB_trans {zs ys xs : List Int} {ps qs rs : Int} (h1 : sameB zs ps ys qs = true) (h2 : sameB ys qs xs rs = true) : sameB zs ps xs rs = true := by
  rw [sameB_iff] at *
  obtain ⟨rfl, a1, a2⟩ := h1
  obtain ⟨rfl, b1, b2⟩ := h2
  exact ⟨rfl, a1.trans b1, a2.trans b2⟩
end Go.Proofs.Qxb6601870aMods
