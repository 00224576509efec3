/-
  (*Spread).shares where the kind is not Even: the parts, host by host, each by its class.
-/
import Derived.Test.Qxb6601926aModsShares
import Derived.RegionTactic
namespace Go.Proofs.Qxb6601926aMods
open Go.RowKit
attribute [local go_sem] run_store_float

/-- The class of a hot host's part, of another's, of host h's where the hot ones begin at fh. -/
def hotC (share : Nat) (hh : Int) : Option Nat := floatBits .quo .f64 share (floatOfInt .f64 hh)
def coldC (share : Nat) (hh : Int) (n : Nat) : Option Nat :=
  match floatBits .sub .f64 4607182418800017408 share with
  | some d => floatBits .quo .f64 d (floatOfInt .f64 (wrap64 (n - hh)))
  | none => none
def hotAt (fh hh : Int) (h : Nat) : Prop := fh ≤ (h : Int) ∧ (h : Int) < wrap64 (fh + hh)
def zoneC (fh hh : Int) (share n h : Nat) : Option Nat := if fh ≤ (h : Int) ∧ (h : Int) < wrap64 (fh + hh) then hotC share hh else coldC share hh n

theorem zone_hot {fh hh : Int} {share n h : Nat} (a : fh ≤ (h : Int)) (b : (h : Int) < wrap64 (fh + hh)) : zoneC fh hh share n h = hotC share hh := if_pos ⟨a, b⟩
theorem zone_cold {fh hh : Int} {share n h : Nat} (a : ¬ (fh ≤ (h : Int) ∧ (h : Int) < wrap64 (fh + hh))) : zoneC fh hh share n h = coldC share hh n := if_neg a
theorem cls_hot_some {fh hh : Int} {share n h r : Nat} (e : zoneC fh hh share n h = hotC share hh) (q : floatBits .quo .f64 share (floatOfInt .f64 hh) = some r) : Cls (zoneC fh hh share n h) r := .inl (e.trans q)
theorem cls_hot_none {fh hh : Int} {share n h : Nat} (e : zoneC fh hh share n h = hotC share hh) (q : floatBits .quo .f64 share (floatOfInt .f64 hh) = none) (w : World) (x y : Nat) : Cls (zoneC fh hh share n h) (nanAt w x y) := .inr ⟨e.trans q, nanAt_nan _ _ _⟩
theorem cls_cold_some {fh hh : Int} {share n h d r : Nat} (e : zoneC fh hh share n h = coldC share hh n) (p : floatBits .sub .f64 4607182418800017408 share = some d) (q : floatBits .quo .f64 d (floatOfInt .f64 (wrap64 (n - hh))) = some r) : Cls (zoneC fh hh share n h) r :=
  .inl (e.trans (by unfold coldC; rw [p]; exact q))
theorem cls_cold_none {fh hh : Int} {share n h d : Nat} (e : zoneC fh hh share n h = coldC share hh n) (p : floatBits .sub .f64 4607182418800017408 share = some d) (q : floatBits .quo .f64 d (floatOfInt .f64 (wrap64 (n - hh))) = none) (w : World) (x y : Nat) : Cls (zoneC fh hh share n h) (nanAt w x y) :=
  .inr ⟨e.trans (by unfold coldC; rw [p]; exact q), nanAt_nan _ _ _⟩
theorem cls_cold_nan {fh hh : Int} {share n h : Nat} (e : zoneC fh hh share n h = coldC share hh n) (p : floatBits .sub .f64 4607182418800017408 share = none) (w : World) (x y : Nat) : Cls (zoneC fh hh share n h) (nanAt w x y) :=
  .inr ⟨e.trans (by unfold coldC; rw [p]), nanAt_nan _ _ _⟩

set_option maxHeartbeats 3200000 in
theorem shares_nil (bs os n t share : Nat) (kind hh : Int) (w : World) (hn : n ≤ 65536) (hk : w.cell? ⟨bs, os, none⟩ = some (.int .i64 kind)) (hkind : (kind == 1) = false)
    (h1 : w.cell? ⟨bs, os + 1, none⟩ = some (.int .i64 hh)) (h2 : w.cell? ⟨bs, os + 2, none⟩ = some (.float .f64 share)) (h3 : w.cell? ⟨bs, os + 3, none⟩ = some (.pointer none)) (hb : bs < w.heap.size) :
    Calls Trym.prog 19 #[.pointer (some ⟨bs, os, none⟩), .int .i64 n, .float .f64 t] w fun e w' => e = .returned (.slice (some ⟨w.heap.size, 0, none⟩) n n) ∧ Part w' w.heap.size n n (zoneC 0 hh share n) ∧ Below w.heap.size w w' := by
  obtain ⟨i0, hi, hz0, hz1, hz2⟩ := info_parts Trym.info22
  go_enter Trym.func19, Trym.ntmps19
  go_wp2_with (first | (refine wpList_make_full _ rfl (.tmp 11) (.tmp 11) 29 rfl w.heap.size 22 i0 (.float .f64 0) 1 Trym.underlying29 hi hz0 hz1 .i64 .i64 _ _ n rfl rfl rfl rfl (by rw [hz2]; omega) (by unfold maxLen; omega) (Nat.le_refl _) ?_; intro w1 hown hgrow; have hbel : Below w.heap.size w w1 := (Below.refl _ _).grown hgrow (Nat.le_refl _) (by simp); have hk1 := (hbel.cell (p := ⟨bs, os, none⟩) hb).trans hk; have k3 := (hbel.cell (p := ⟨bs, os + 3, none⟩) hb).trans h3))
  have hp : Part w1 w.heap.size n 0 (zoneC 0 hh share n) := Part.start hown
  clear hown hgrow
  go_loopw [54] (fun i wr => ∃ k : Nat, k ≤ n ∧ i = .int .i64 k ∧ Part wr w.heap.size n k (zoneC 0 hh share n) ∧ Below w.heap.size w wr) (fun i _ => n - (intOf i).toNat)
  case atStart => exact ⟨0, Nat.zero_le _, rfl, hp, hbel⟩
  case round =>
    clear hp hbel hk1 k3
    obtain ⟨k, hkn, rfl, hp, hbel⟩ := hrel
    by_cases hlt : k < n
    · obtain ⟨⟨old, c1⟩, c2⟩ := hp.cell hlt
      have k1 := (hbel.cell (p := ⟨bs, os + 1, none⟩) hb).trans h1
      have k2 := (hbel.cell (p := ⟨bs, os + 2, none⟩) hb).trans h2
      have HP := hide hp
      have HB := hide hbel
      clear hk h1 h2 h3
      by_cases hot : (k : Int) < wrap64 hh
      · have he : zoneC 0 hh share n k = hotC share hh := zone_hot (by omega) (by rw [Int.zero_add]; exact hot)
        have HE := hide he
        clear he
        cases hq : floatBits .quo .f64 share (floatOfInt .f64 hh) with
        | some r =>
          have hr := fun w => run_float_arith (P := Trym.prog) w .quo 22 .f64 _ _ _ hq
          have HQ := hide hq
          clear hq
          clear hp hbel
          go_wp2
          go_region
          go_wp2
          go_roundw
          case rel => exact ⟨k + 1, by omega, by go_num, (HP.out.step hlt (cls_hot_some HE.out HQ.out)).drew, (HB.out.setCell (Nat.le_refl _) _).drew⟩
          case measure => simp [intOf]; omega
        | none =>
          have hr := fun w => run_quo_nan Trym.prog w 22 _ _ hq
          have HQ := hide hq
          clear hq
          clear hp hbel
          go_wp2
          go_region
          go_wp2
          go_roundw
          case rel => exact ⟨k + 1, by omega, by go_num, (HP.out.step hlt (cls_hot_none HE.out HQ.out _ _ _)).drew.drew, (HB.out.setCell (Nat.le_refl _) _).drew.drew⟩
          case measure => simp [intOf]; omega
      · have he : zoneC 0 hh share n k = coldC share hh n := zone_cold (fun h => hot (by have := h.2; rw [Int.zero_add] at this; exact this))
        have hotd : decide ((k : Int) < wrap64 hh) = false := by simpa using hot
        clear hot
        have HE := hide he
        clear he
        cases hs : floatBits .sub .f64 4607182418800017408 share with
        | some d =>
          have hr := fun w => run_float_arith (P := Trym.prog) w .sub 22 .f64 _ _ _ hs
          have HS := hide hs
          clear hs
          cases hq : floatBits .quo .f64 d (floatOfInt .f64 (wrap64 (n - hh))) with
          | some r =>
            have hr2 := fun w => run_float_arith (P := Trym.prog) w .quo 22 .f64 _ _ _ hq
            have HQ := hide hq
            clear hq
            clear hp hbel
            go_wp2
            go_region
            go_wp2
            go_roundw
            case rel => exact ⟨k + 1, by omega, by go_num, (HP.out.step hlt (cls_cold_some HE.out HS.out HQ.out)).drew, (HB.out.setCell (Nat.le_refl _) _).drew⟩
            case measure => simp [intOf]; omega
          | none =>
            have hr2 := fun w => run_quo_nan Trym.prog w 22 _ _ hq
            have HQ := hide hq
            clear hq
            clear hp hbel
            go_wp2
            go_region
            go_wp2
            go_roundw
            case rel => exact ⟨k + 1, by omega, by go_num, (HP.out.step hlt (cls_cold_none HE.out HS.out HQ.out _ _ _)).drew.drew, (HB.out.setCell (Nat.le_refl _) _).drew.drew⟩
            case measure => simp [intOf]; omega
        | none =>
          have hr := fun w => run_sub_nan Trym.prog w 22 _ _ hs
          have hr2 := fun w w' y => run_quo_nan Trym.prog w 22 _ _ (quo_of_nan y (nanAt_nan w' 4607182418800017408 share))
          have HS := hide hs
          clear hs
          clear hp hbel
          go_wp2
          go_region
          go_wp2
          go_roundw
          case rel => exact ⟨k + 1, by omega, by go_num, (HP.out.step hlt (cls_cold_nan HE.out HS.out _ _ _)).drew.drew.drew, (HB.out.setCell (Nat.le_refl _) _).drew.drew.drew⟩
          case measure => simp [intOf]; omega
    · have hkl : k = n := by omega
      subst hkl
      go_wp2
      go_ret
      exact ⟨rfl, hp, hbel⟩

set_option maxHeartbeats 3200000 in
theorem shares_before (bs os n t share bm c : Nat) (kind hh : Int) (w : World) (hn : n ≤ 65536) (hk : w.cell? ⟨bs, os, none⟩ = some (.int .i64 kind)) (hkind : (kind == 1) = false)
    (h1 : w.cell? ⟨bs, os + 1, none⟩ = some (.int .i64 hh)) (h2 : w.cell? ⟨bs, os + 2, none⟩ = some (.float .f64 share)) (h3 : w.cell? ⟨bs, os + 3, none⟩ = some (.pointer (some ⟨bm, 0, none⟩))) (hb : bs < w.heap.size) (hbm : bm < w.heap.size) (h4 : w.cell? ⟨bm, 0, none⟩ = some (.float .f64 c)) (hge : (FloatKind.f64.format.order t c == some .gt || FloatKind.f64.format.order t c == some .eq) = false) :
    Calls Trym.prog 19 #[.pointer (some ⟨bs, os, none⟩), .int .i64 n, .float .f64 t] w fun e w' => e = .returned (.slice (some ⟨w.heap.size, 0, none⟩) n n) ∧ Part w' w.heap.size n n (zoneC 0 hh share n) ∧ Below w.heap.size w w' := by
  obtain ⟨i0, hi, hz0, hz1, hz2⟩ := info_parts Trym.info22
  go_enter Trym.func19, Trym.ntmps19
  go_wp2_with (first | (refine wpList_make_full _ rfl (.tmp 11) (.tmp 11) 29 rfl w.heap.size 22 i0 (.float .f64 0) 1 Trym.underlying29 hi hz0 hz1 .i64 .i64 _ _ n rfl rfl rfl rfl (by rw [hz2]; omega) (by unfold maxLen; omega) (Nat.le_refl _) ?_; intro w1 hown hgrow; have hbel : Below w.heap.size w w1 := (Below.refl _ _).grown hgrow (Nat.le_refl _) (by simp); have hk1 := (hbel.cell (p := ⟨bs, os, none⟩) hb).trans hk; have k3 := (hbel.cell (p := ⟨bs, os + 3, none⟩) hb).trans h3; have k4 := (hbel.cell (p := ⟨bm, 0, none⟩) hbm).trans h4))
  have hp : Part w1 w.heap.size n 0 (zoneC 0 hh share n) := Part.start hown
  clear hown hgrow
  go_loopw [54] (fun i wr => ∃ k : Nat, k ≤ n ∧ i = .int .i64 k ∧ Part wr w.heap.size n k (zoneC 0 hh share n) ∧ Below w.heap.size w wr) (fun i _ => n - (intOf i).toNat)
  case atStart => exact ⟨0, Nat.zero_le _, rfl, hp, hbel⟩
  case round =>
    clear hp hbel hk1 k3 k4
    obtain ⟨k, hkn, rfl, hp, hbel⟩ := hrel
    by_cases hlt : k < n
    · obtain ⟨⟨old, c1⟩, c2⟩ := hp.cell hlt
      have k1 := (hbel.cell (p := ⟨bs, os + 1, none⟩) hb).trans h1
      have k2 := (hbel.cell (p := ⟨bs, os + 2, none⟩) hb).trans h2
      have HP := hide hp
      have HB := hide hbel
      clear hk h1 h2 h3 h4
      by_cases hot : (k : Int) < wrap64 hh
      · have he : zoneC 0 hh share n k = hotC share hh := zone_hot (by omega) (by rw [Int.zero_add]; exact hot)
        have HE := hide he
        clear he
        cases hq : floatBits .quo .f64 share (floatOfInt .f64 hh) with
        | some r =>
          have hr := fun w => run_float_arith (P := Trym.prog) w .quo 22 .f64 _ _ _ hq
          have HQ := hide hq
          clear hq
          clear hp hbel
          go_wp2
          go_region
          go_wp2
          go_roundw
          case rel => exact ⟨k + 1, by omega, by go_num, (HP.out.step hlt (cls_hot_some HE.out HQ.out)).drew, (HB.out.setCell (Nat.le_refl _) _).drew⟩
          case measure => simp [intOf]; omega
        | none =>
          have hr := fun w => run_quo_nan Trym.prog w 22 _ _ hq
          have HQ := hide hq
          clear hq
          clear hp hbel
          go_wp2
          go_region
          go_wp2
          go_roundw
          case rel => exact ⟨k + 1, by omega, by go_num, (HP.out.step hlt (cls_hot_none HE.out HQ.out _ _ _)).drew.drew, (HB.out.setCell (Nat.le_refl _) _).drew.drew⟩
          case measure => simp [intOf]; omega
      · have he : zoneC 0 hh share n k = coldC share hh n := zone_cold (fun h => hot (by have := h.2; rw [Int.zero_add] at this; exact this))
        have hotd : decide ((k : Int) < wrap64 hh) = false := by simpa using hot
        clear hot
        have HE := hide he
        clear he
        cases hs : floatBits .sub .f64 4607182418800017408 share with
        | some d =>
          have hr := fun w => run_float_arith (P := Trym.prog) w .sub 22 .f64 _ _ _ hs
          have HS := hide hs
          clear hs
          cases hq : floatBits .quo .f64 d (floatOfInt .f64 (wrap64 (n - hh))) with
          | some r =>
            have hr2 := fun w => run_float_arith (P := Trym.prog) w .quo 22 .f64 _ _ _ hq
            have HQ := hide hq
            clear hq
            clear hp hbel
            go_wp2
            go_region
            go_wp2
            go_roundw
            case rel => exact ⟨k + 1, by omega, by go_num, (HP.out.step hlt (cls_cold_some HE.out HS.out HQ.out)).drew, (HB.out.setCell (Nat.le_refl _) _).drew⟩
            case measure => simp [intOf]; omega
          | none =>
            have hr2 := fun w => run_quo_nan Trym.prog w 22 _ _ hq
            have HQ := hide hq
            clear hq
            clear hp hbel
            go_wp2
            go_region
            go_wp2
            go_roundw
            case rel => exact ⟨k + 1, by omega, by go_num, (HP.out.step hlt (cls_cold_none HE.out HS.out HQ.out _ _ _)).drew.drew, (HB.out.setCell (Nat.le_refl _) _).drew.drew⟩
            case measure => simp [intOf]; omega
        | none =>
          have hr := fun w => run_sub_nan Trym.prog w 22 _ _ hs
          have hr2 := fun w w' y => run_quo_nan Trym.prog w 22 _ _ (quo_of_nan y (nanAt_nan w' 4607182418800017408 share))
          have HS := hide hs
          clear hs
          clear hp hbel
          go_wp2
          go_region
          go_wp2
          go_roundw
          case rel => exact ⟨k + 1, by omega, by go_num, (HP.out.step hlt (cls_cold_nan HE.out HS.out _ _ _)).drew.drew.drew, (HB.out.setCell (Nat.le_refl _) _).drew.drew.drew⟩
          case measure => simp [intOf]; omega
    · have hkl : k = n := by omega
      subst hkl
      go_wp2
      go_ret
      exact ⟨rfl, hp, hbel⟩

set_option maxHeartbeats 3200000 in
theorem shares_after (bs os n t share bm c : Nat) (kind hh : Int) (w : World) (hn : n ≤ 65536) (hk : w.cell? ⟨bs, os, none⟩ = some (.int .i64 kind)) (hkind : (kind == 1) = false)
    (h1 : w.cell? ⟨bs, os + 1, none⟩ = some (.int .i64 hh)) (h2 : w.cell? ⟨bs, os + 2, none⟩ = some (.float .f64 share)) (h3 : w.cell? ⟨bs, os + 3, none⟩ = some (.pointer (some ⟨bm, 0, none⟩))) (hb : bs < w.heap.size) (hbm : bm < w.heap.size) (h4 : w.cell? ⟨bm, 0, none⟩ = some (.float .f64 c)) (hge : (FloatKind.f64.format.order t c == some .gt || FloatKind.f64.format.order t c == some .eq) = true) :
    Calls Trym.prog 19 #[.pointer (some ⟨bs, os, none⟩), .int .i64 n, .float .f64 t] w fun e w' => e = .returned (.slice (some ⟨w.heap.size, 0, none⟩) n n) ∧ Part w' w.heap.size n n (zoneC (wrap64 (n - hh)) hh share n) ∧ Below w.heap.size w w' := by
  obtain ⟨i0, hi, hz0, hz1, hz2⟩ := info_parts Trym.info22
  go_enter Trym.func19, Trym.ntmps19
  go_wp2_with (first | (refine wpList_make_full _ rfl (.tmp 11) (.tmp 11) 29 rfl w.heap.size 22 i0 (.float .f64 0) 1 Trym.underlying29 hi hz0 hz1 .i64 .i64 _ _ n rfl rfl rfl rfl (by rw [hz2]; omega) (by unfold maxLen; omega) (Nat.le_refl _) ?_; intro w1 hown hgrow; have hbel : Below w.heap.size w w1 := (Below.refl _ _).grown hgrow (Nat.le_refl _) (by simp); have hk1 := (hbel.cell (p := ⟨bs, os, none⟩) hb).trans hk; have k3 := (hbel.cell (p := ⟨bs, os + 3, none⟩) hb).trans h3; have k4 := (hbel.cell (p := ⟨bm, 0, none⟩) hbm).trans h4; have k5 := (hbel.cell (p := ⟨bs, os + 1, none⟩) hb).trans h1))
  have hp : Part w1 w.heap.size n 0 (zoneC (wrap64 (n - hh)) hh share n) := Part.start hown
  clear hown hgrow
  generalize hfh : wrap64 ((n : Int) - hh) = fh at *
  have HF := hide hfh
  clear hfh
  go_loopw [54] (fun i wr => ∃ k : Nat, k ≤ n ∧ i = .int .i64 k ∧ Part wr w.heap.size n k (zoneC fh hh share n) ∧ Below w.heap.size w wr) (fun i _ => n - (intOf i).toNat)
  case atStart => exact ⟨0, Nat.zero_le _, rfl, hp, hbel⟩
  case round =>
    clear hp hbel hk1 k3 k4 k5
    obtain ⟨k, hkn, rfl, hp, hbel⟩ := hrel
    by_cases hlt : k < n
    · obtain ⟨⟨old, c1⟩, c2⟩ := hp.cell hlt
      have k1 := (hbel.cell (p := ⟨bs, os + 1, none⟩) hb).trans h1
      have k2 := (hbel.cell (p := ⟨bs, os + 2, none⟩) hb).trans h2
      have HP := hide hp
      have HB := hide hbel
      clear hk h1 h2 h3 h4
      by_cases hlo : fh ≤ (k : Int)
      · by_cases hot : (k : Int) < wrap64 (fh + hh)
        · have he : zoneC fh hh share n k = hotC share hh := zone_hot hlo hot
          have HE := hide he
          clear he
          cases hq : floatBits .quo .f64 share (floatOfInt .f64 hh) with
          | some r =>
            have hr := fun w => run_float_arith (P := Trym.prog) w .quo 22 .f64 _ _ _ hq
            have HQ := hide hq
            clear hq
            clear hp hbel
            go_wp2
            go_region
            go_wp2
            go_roundw
            case rel => exact ⟨k + 1, by omega, by go_num, (HP.out.step hlt (cls_hot_some HE.out HQ.out)).drew, (HB.out.setCell (Nat.le_refl _) _).drew⟩
            case measure => simp [intOf]; omega
          | none =>
            have hr := fun w => run_quo_nan Trym.prog w 22 _ _ hq
            have HQ := hide hq
            clear hq
            clear hp hbel
            go_wp2
            go_region
            go_wp2
            go_roundw
            case rel => exact ⟨k + 1, by omega, by go_num, (HP.out.step hlt (cls_hot_none HE.out HQ.out _ _ _)).drew.drew, (HB.out.setCell (Nat.le_refl _) _).drew.drew⟩
            case measure => simp [intOf]; omega
        · have he : zoneC fh hh share n k = coldC share hh n := zone_cold (fun h => hot h.2)
          have hotd : decide ((k : Int) < wrap64 (fh + hh)) = false := by simpa using hot
          clear hot
          have HE := hide he
          clear he
          cases hs : floatBits .sub .f64 4607182418800017408 share with
          | some d =>
            have hr := fun w => run_float_arith (P := Trym.prog) w .sub 22 .f64 _ _ _ hs
            have HS := hide hs
            clear hs
            cases hq : floatBits .quo .f64 d (floatOfInt .f64 (wrap64 (n - hh))) with
            | some r =>
              have hr2 := fun w => run_float_arith (P := Trym.prog) w .quo 22 .f64 _ _ _ hq
              have HQ := hide hq
              clear hq
              clear hp hbel
              go_wp2
              go_region
              go_wp2
              go_roundw
              case rel => exact ⟨k + 1, by omega, by go_num, (HP.out.step hlt (cls_cold_some HE.out HS.out HQ.out)).drew, (HB.out.setCell (Nat.le_refl _) _).drew⟩
              case measure => simp [intOf]; omega
            | none =>
              have hr2 := fun w => run_quo_nan Trym.prog w 22 _ _ hq
              have HQ := hide hq
              clear hq
              clear hp hbel
              go_wp2
              go_region
              go_wp2
              go_roundw
              case rel => exact ⟨k + 1, by omega, by go_num, (HP.out.step hlt (cls_cold_none HE.out HS.out HQ.out _ _ _)).drew.drew, (HB.out.setCell (Nat.le_refl _) _).drew.drew⟩
              case measure => simp [intOf]; omega
          | none =>
            have hr := fun w => run_sub_nan Trym.prog w 22 _ _ hs
            have hr2 := fun w w' y => run_quo_nan Trym.prog w 22 _ _ (quo_of_nan y (nanAt_nan w' 4607182418800017408 share))
            have HS := hide hs
            clear hs
            clear hp hbel
            go_wp2
            go_region
            go_wp2
            go_roundw
            case rel => exact ⟨k + 1, by omega, by go_num, (HP.out.step hlt (cls_cold_nan HE.out HS.out _ _ _)).drew.drew.drew, (HB.out.setCell (Nat.le_refl _) _).drew.drew.drew⟩
            case measure => simp [intOf]; omega
      · have he : zoneC fh hh share n k = coldC share hh n := zone_cold (fun h => hlo h.1)
        have hlod : decide (fh ≤ (k : Int)) = false := by simpa using hlo
        clear hlo
        have HE := hide he
        clear he
        cases hs : floatBits .sub .f64 4607182418800017408 share with
        | some d =>
          have hr := fun w => run_float_arith (P := Trym.prog) w .sub 22 .f64 _ _ _ hs
          have HS := hide hs
          clear hs
          cases hq : floatBits .quo .f64 d (floatOfInt .f64 (wrap64 (n - hh))) with
          | some r =>
            have hr2 := fun w => run_float_arith (P := Trym.prog) w .quo 22 .f64 _ _ _ hq
            have HQ := hide hq
            clear hq
            clear hp hbel
            go_wp2
            go_region
            go_wp2
            go_roundw
            case rel => exact ⟨k + 1, by omega, by go_num, (HP.out.step hlt (cls_cold_some HE.out HS.out HQ.out)).drew, (HB.out.setCell (Nat.le_refl _) _).drew⟩
            case measure => simp [intOf]; omega
          | none =>
            have hr2 := fun w => run_quo_nan Trym.prog w 22 _ _ hq
            have HQ := hide hq
            clear hq
            clear hp hbel
            go_wp2
            go_region
            go_wp2
            go_roundw
            case rel => exact ⟨k + 1, by omega, by go_num, (HP.out.step hlt (cls_cold_none HE.out HS.out HQ.out _ _ _)).drew.drew, (HB.out.setCell (Nat.le_refl _) _).drew.drew⟩
            case measure => simp [intOf]; omega
        | none =>
          have hr := fun w => run_sub_nan Trym.prog w 22 _ _ hs
          have hr2 := fun w w' y => run_quo_nan Trym.prog w 22 _ _ (quo_of_nan y (nanAt_nan w' 4607182418800017408 share))
          have HS := hide hs
          clear hs
          clear hp hbel
          go_wp2
          go_region
          go_wp2
          go_roundw
          case rel => exact ⟨k + 1, by omega, by go_num, (HP.out.step hlt (cls_cold_nan HE.out HS.out _ _ _)).drew.drew.drew, (HB.out.setCell (Nat.le_refl _) _).drew.drew.drew⟩
          case measure => simp [intOf]; omega
    · have hkl : k = n := by omega
      subst hkl
      go_wp2
      go_ret
      exact ⟨rfl, by rw [HF.out]; exact hp, hbel⟩
end Go.Proofs.Qxb6601926aMods
