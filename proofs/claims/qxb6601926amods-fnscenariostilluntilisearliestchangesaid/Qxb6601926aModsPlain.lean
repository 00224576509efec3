/-
  The plain laws on stillUntil: least elements of the change points. No walk here.
-/
import Derived.Test.Qxb6601926aModsUntil
namespace Go.Proofs.Qxb6601926aMods

/-- c lies strictly inside (f, t). -/
def Inside (f t c : Nat) : Prop := Fo.ltB f c = true ∧ Fo.ltB c t = true
/-- r is the least of S, or t where S is empty. -/
def IsMin (S : Nat → Prop) (t r : Nat) : Prop := (r = t ∧ ∀ c, ¬ S c) ∨ (S r ∧ ∀ c, S c → ¬ Fo.ltB c r = true)

theorem IsMin.congr {S S' : Nat → Prop} {t r : Nat} (h : IsMin S t r) (e : ∀ c, S c ↔ S' c) : IsMin S' t r := by
  rcases h with ⟨h1, h2⟩ | ⟨h1, h2⟩
  · exact .inl ⟨h1, fun c hc => h2 c ((e c).2 hc)⟩
  · exact .inr ⟨(e r).1 h1, fun c hc => h2 c ((e c).2 hc)⟩

/-- One point more: it becomes the answer where it lies ahead of the answer so far. -/
theorem IsMin.take {S : Nat → Prop} {f t u a : Nat} (h : IsMin S t u) (hS : ∀ c, S c → Inside f t c) (h1 : Fo.ltB f a = true) (h2 : Fo.ltB a u = true) :
    IsMin (fun c => S c ∨ (c = a ∧ Inside f t c)) t a := by
  rcases h with ⟨rfl, hn⟩ | ⟨hu, hm⟩
  · exact .inr ⟨.inr ⟨rfl, h1, h2⟩, fun c hc => by
      rcases hc with hc | ⟨rfl, _⟩
      · exact absurd hc (hn c)
      · exact Fo.lt_irrefl c⟩
  · exact .inr ⟨.inr ⟨rfl, h1, Fo.lt_trans h2 (hS u hu).2⟩, fun c hc => by
      rcases hc with hc | ⟨rfl, _⟩
      · exact fun k => hm c hc (Fo.lt_trans k h2)
      · exact Fo.lt_irrefl c⟩
theorem IsMin.leave {S : Nat → Prop} {f t u a : Nat} (h : IsMin S t u) (hno : ¬ (Fo.ltB f a = true ∧ Fo.ltB a u = true)) :
    IsMin (fun c => S c ∨ (c = a ∧ Inside f t c)) t u := by
  rcases h with ⟨rfl, hn⟩ | ⟨hu, hm⟩
  · exact .inl ⟨rfl, fun c hc => by
      rcases hc with hc | ⟨rfl, hi⟩
      · exact hn c hc
      · exact hno hi⟩
  · exact .inr ⟨.inl hu, fun c hc => by
      rcases hc with hc | ⟨rfl, hi⟩
      · exact hm c hc
      · exact fun k => hno ⟨hi.1, k⟩⟩

theorem IsMin.same {S : Nat → Prop} {f t r r' : Nat} (hS : ∀ c, S c → Inside f t c) (h : IsMin S t r) (k : IsMin S t r') : Fo.sameF r r' = true := by
  rcases h with ⟨rfl, hn⟩ | ⟨hu, hm⟩
  · rcases k with ⟨rfl, _⟩ | ⟨ku, _⟩
    · exact Fo.sameF_self _
    · exact absurd ku (hn _)
  · rcases k with ⟨rfl, kn⟩ | ⟨ku, km⟩
    · exact absurd hu (kn _)
    · exact Fo.sameF_of_eq (Fo.eq_of_not_lts (Fo.lt_right (hS r hu).1) (Fo.lt_right (hS r' ku).1) (km r hu) (hm r' ku))

/-! ### Forward: (*Scenario).stillUntil -/
/-- The change points inside (f, t): the move point and the first k events that are leavings. -/
def Pts (mo : Option Nat) (ats : List Nat) (kds : List Int) (f t k c : Nat) : Prop :=
  (mo = some c ∧ Inside f t c) ∨ ∃ i, i < k ∧ kds.getD i 0 = 3 ∧ ats.getD i 0 = c ∧ Inside f t c
theorem Pts.inside {mo : Option Nat} {ats : List Nat} {kds : List Int} {f t k c : Nat} (h : Pts mo ats kds f t k c) : Inside f t c := by
  rcases h with ⟨_, h⟩ | ⟨_, _, _, _, h⟩ <;> exact h

theorem till_min (mo : Option Nat) (ats : List Nat) (kds : List Int) (f t : Nat) : IsMin (Pts mo ats kds f t 0) t (till mo f t) := by
  have hno : ∀ c, ¬ ∃ i, i < 0 ∧ kds.getD i 0 = 3 ∧ ats.getD i 0 = c ∧ Inside f t c := fun c ⟨i, h, _⟩ => absurd h (Nat.not_lt_zero _)
  cases mo with
  | none => exact .inl ⟨rfl, fun c hc => by rcases hc with ⟨h, _⟩ | h; cases h; exact hno c h⟩
  | some m =>
    unfold till
    simp only
    by_cases h : Fo.ltB f m = true ∧ Fo.ltB m t = true
    · rw [if_pos h]
      exact .inr ⟨.inl ⟨rfl, h⟩, fun c hc => by
        rcases hc with ⟨h', _⟩ | h'
        · cases h'; exact Fo.lt_irrefl _
        · exact absurd h' (hno c)⟩
    · rw [if_neg h]
      exact .inl ⟨rfl, fun c hc => by
        rcases hc with ⟨h', hi⟩ | h'
        · cases h'; exact h hi
        · exact hno c h'⟩

theorem pts_succ (mo : Option Nat) (ats : List Nat) (kds : List Int) (f t k : Nat) (hk : kds.getD k 0 = 3) (c : Nat) :
    (Pts mo ats kds f t k c ∨ (c = ats.getD k 0 ∧ Inside f t c)) ↔ Pts mo ats kds f t (k + 1) c := by
  constructor
  · rintro ((h | ⟨i, h1, h2⟩) | ⟨h1, h2⟩)
    · exact .inl h
    · exact .inr ⟨i, by omega, h2⟩
    · exact .inr ⟨k, by omega, hk, h1.symm, h2⟩
  · rintro (h | ⟨i, h1, h2, h3, h4⟩)
    · exact .inl (.inl h)
    · by_cases e : i = k
      · subst e; exact .inr ⟨h3.symm, h4⟩
      · exact .inl (.inr ⟨i, by omega, h2, h3, h4⟩)
theorem pts_skip (mo : Option Nat) (ats : List Nat) (kds : List Int) (f t k : Nat) (hk : ¬ kds.getD k 0 = 3) (c : Nat) :
    Pts mo ats kds f t k c ↔ Pts mo ats kds f t (k + 1) c := by
  constructor
  · rintro (h | ⟨i, h1, h2⟩)
    · exact .inl h
    · exact .inr ⟨i, by omega, h2⟩
  · rintro (h | ⟨i, h1, h2, h3, h4⟩)
    · exact .inl h
    · by_cases e : i = k
      · subst e; exact absurd h2 hk
      · exact .inr ⟨i, by omega, h2, h3, h4⟩

theorem evTo_min (mo : Option Nat) (ats : List Nat) (kds : List Int) (f t : Nat) : ∀ k, IsMin (Pts mo ats kds f t k) t (evTo f (till mo f t) ats kds k)
  | 0 => till_min mo ats kds f t
  | k + 1 => by
    have ih := evTo_min mo ats kds f t k
    show IsMin _ t (stepE f (evTo f (till mo f t) ats kds k) (ats.getD k 0) (kds.getD k 0))
    generalize evTo f (till mo f t) ats kds k = u at ih
    unfold stepE
    by_cases hk : kds.getD k 0 = 3
    · by_cases h : Fo.ltB f (ats.getD k 0) = true ∧ Fo.ltB (ats.getD k 0) u = true
      · rw [if_pos ⟨hk, h⟩]
        exact (ih.take (fun c hc => hc.inside) h.1 h.2).congr (pts_succ mo ats kds f t k hk)
      · rw [if_neg (fun c => h c.2)]
        exact (ih.leave h).congr (pts_succ mo ats kds f t k hk)
    · rw [if_neg (fun c => hk c.1)]
      exact ih.congr (pts_skip mo ats kds f t k hk)
theorem scTill_min (mo : Option Nat) (ats : List Nat) (kds : List Int) (n f t : Nat) : IsMin (Pts mo ats kds f t n) t (scTill mo ats kds n f t) := evTo_min mo ats kds f t n

/-! ### Backward: the law's own loop -/
/-- The law's state (best, found) meets the point a, which counts where p. -/
def stepB (f t : Nat) (s : Nat × Bool) (a : Nat) (p : Prop) [Decidable p] : Nat × Bool :=
  if p ∧ Fo.ltB f a = true ∧ Fo.ltB a t = true ∧ (s.2 = false ∨ Fo.ltB a s.1 = true) then (a, true) else s
/-- Behind j rounds of the loop that runs down from n - 1. -/
def bk (f t n : Nat) (ats : List Nat) (kds : List Int) : Nat → Nat × Bool
  | 0 => (t, false)
  | j + 1 => stepB f t (bk f t n ats kds j) (ats.getD (n - 1 - j) 0) (kds.getD (n - 1 - j) 0 = 3)
/-- .. and behind the move point. -/
def best (f t n : Nat) (ats : List Nat) (kds : List Int) (mo : Option Nat) : Nat :=
  match mo with
  | none => (bk f t n ats kds n).1
  | some c => (stepB f t (bk f t n ats kds n) c True).1

def IsMinB (S : Nat → Prop) (t : Nat) (s : Nat × Bool) : Prop := (s.2 = false ∧ s.1 = t ∧ ∀ c, ¬ S c) ∨ (s.2 = true ∧ S s.1 ∧ ∀ c, S c → ¬ Fo.ltB c s.1 = true)
theorem IsMinB.min {S : Nat → Prop} {t : Nat} {s : Nat × Bool} (h : IsMinB S t s) : IsMin S t s.1 := by
  rcases h with ⟨_, h1, h2⟩ | ⟨_, h1, h2⟩
  · exact .inl ⟨h1, h2⟩
  · exact .inr ⟨h1, h2⟩
theorem stepB_min {S S' : Nat → Prop} {f t a : Nat} {s : Nat × Bool} {p : Prop} [Decidable p] (h : IsMinB S t s) (e : ∀ c, S' c ↔ (S c ∨ (p ∧ c = a ∧ Inside f t c))) : IsMinB S' t (stepB f t s a p) := by
  unfold stepB
  by_cases hp : p ∧ Fo.ltB f a = true ∧ Fo.ltB a t = true ∧ (s.2 = false ∨ Fo.ltB a s.1 = true)
  · rw [if_pos hp]
    obtain ⟨h0, h1, h2, h3⟩ := hp
    refine .inr ⟨rfl, (e a).2 (.inr ⟨h0, rfl, h1, h2⟩), fun c hc => ?_⟩
    rcases (e c).1 hc with hc | ⟨_, rfl, _⟩
    · rcases h with ⟨k0, k1, k2⟩ | ⟨k0, k1, k2⟩
      · exact absurd hc (k2 c)
      · rcases h3 with h3 | h3
        · rw [k0] at h3; cases h3
        · exact fun x => k2 c hc (Fo.lt_trans x h3)
    · exact Fo.lt_irrefl c
  · rw [if_neg hp]
    rcases h with ⟨k0, k1, k2⟩ | ⟨k0, k1, k2⟩
    · refine .inl ⟨k0, k1, fun c hc => ?_⟩
      rcases (e c).1 hc with hc | ⟨h0, rfl, h1, h2⟩
      · exact k2 c hc
      · exact hp ⟨h0, h1, h2, .inl k0⟩
    · refine .inr ⟨k0, (e _).2 (.inl k1), fun c hc => ?_⟩
      rcases (e c).1 hc with hc | ⟨h0, rfl, h1, h2⟩
      · exact k2 c hc
      · exact fun x => hp ⟨h0, h1, h2, .inr x⟩

def PtsB (ats : List Nat) (kds : List Int) (f t n j c : Nat) : Prop := ∃ i, i < j ∧ kds.getD (n - 1 - i) 0 = 3 ∧ ats.getD (n - 1 - i) 0 = c ∧ Inside f t c
theorem bk_min (ats : List Nat) (kds : List Int) (f t n : Nat) : ∀ j, IsMinB (PtsB ats kds f t n j) t (bk f t n ats kds j)
  | 0 => .inl ⟨rfl, rfl, fun c ⟨i, h, _⟩ => absurd h (Nat.not_lt_zero _)⟩
  | j + 1 => by
    refine stepB_min (bk_min ats kds f t n j) (fun c => ?_)
    constructor
    · rintro ⟨i, h1, h2, h3, h4⟩
      by_cases x : i = j
      · subst x; exact .inr ⟨h2, h3.symm, h4⟩
      · exact .inl ⟨i, by omega, h2, h3, h4⟩
    · rintro (⟨i, h1, h2⟩ | ⟨h2, h3, h4⟩)
      · exact ⟨i, by omega, h2⟩
      · exact ⟨j, by omega, h2, h3.symm, h4⟩

theorem best_min (ats : List Nat) (kds : List Int) (f t n : Nat) (mo : Option Nat) : IsMin (Pts mo ats kds f t n) t (best f t n ats kds mo) := by
  have turn : ∀ c, PtsB ats kds f t n n c ↔ ∃ i, i < n ∧ kds.getD i 0 = 3 ∧ ats.getD i 0 = c ∧ Inside f t c := by
    intro c
    constructor
    · rintro ⟨i, h1, h2⟩; exact ⟨n - 1 - i, by omega, h2⟩
    · rintro ⟨i, h1, h2⟩; exact ⟨n - 1 - i, by omega, by rw [show n - 1 - (n - 1 - i) = i by omega]; exact h2⟩
  have b := bk_min ats kds f t n n
  cases mo with
  | none =>
    refine b.min.congr (fun c => (turn c).trans ⟨fun h => .inr h, fun h => ?_⟩)
    rcases h with ⟨h, _⟩ | h
    · cases h
    · exact h
  | some m =>
    have k : IsMinB (Pts (some m) ats kds f t n) t (stepB f t (bk f t n ats kds n) m True) := by
      refine stepB_min b (fun c => ?_)
      constructor
      · rintro (⟨h, hi⟩ | h)
        · cases h; exact .inr ⟨trivial, rfl, hi⟩
        · exact .inl ((turn c).2 h)
      · rintro (h | ⟨_, rfl, h⟩)
        · exact .inr ((turn c).1 h)
        · exact .inl ⟨rfl, h⟩
    exact k.min

/-- THE LAW: the scenario's answer is the least change point inside, or 'to'. -/
theorem earliest (mo : Option Nat) (ats : List Nat) (kds : List Int) (n f t : Nat) : Fo.sameF (scTill mo ats kds n f t) (best f t n ats kds mo) = true :=
  IsMin.same (fun _ h => Pts.inside h) (scTill_min mo ats kds n f t) (best_min ats kds f t n mo)

/-! ### The second law -/
theorem again_same (mo : Option Nat) (ats : List Nat) (kds : List Int) (n f t : Nat) :
    Fo.sameF (scTill mo ats kds n f (scTill mo ats kds n f t)) (scTill mo ats kds n f t) = true := by
  have h := scTill_min mo ats kds n f t
  generalize scTill mo ats kds n f t = r at h
  have k := scTill_min mo ats kds n f r
  generalize scTill mo ats kds n f r = q at k
  rcases k with ⟨rfl, _⟩ | ⟨kq, _⟩
  · exact Fo.sameF_self _
  · exfalso
    have hq : Fo.ltB q r = true := kq.inside.2
    have hq' : Pts mo ats kds f t n q := by
      have hin : Inside f t q := ⟨kq.inside.1, by
        rcases h with ⟨rfl, _⟩ | ⟨hr, _⟩
        · exact hq
        · exact Fo.lt_trans hq hr.inside.2⟩
      rcases kq with ⟨a, _⟩ | ⟨i, a, b, c, _⟩
      · exact .inl ⟨a, hin⟩
      · exact .inr ⟨i, a, b, c, hin⟩
    rcases h with ⟨_, hn⟩ | ⟨_, hm⟩
    · exact hn q hq'
    · exact hm q hq' hq
theorem from_lt (mo : Option Nat) (ats : List Nat) (kds : List Int) (n f t : Nat) (h : Fo.ltB f t = true) : Fo.ltB f (scTill mo ats kds n f t) = true := by
  rcases scTill_min mo ats kds n f t with ⟨e, _⟩ | ⟨hr, _⟩
  · rw [e]; exact h
  · exact hr.inside.1
theorem le_spread (mo : Option Nat) (ats : List Nat) (kds : List Int) (n f t : Nat) (h : Fo.ltB f t = true) : Fo.leB (scTill mo ats kds n f t) (till mo f t) = true := by
  have hs := scTill_min mo ats kds n f t
  have hu := till_min mo ats kds f t
  generalize till mo f t = u at hu
  generalize scTill mo ats kds n f t = r at hs
  have up : ∀ c, Pts mo ats kds f t 0 c → Pts mo ats kds f t n c := by
    rintro c (x | ⟨i, x, _⟩)
    · exact .inl x
    · exact absurd x (Nat.not_lt_zero _)
  rcases hu with ⟨rfl, _⟩ | ⟨hu, _⟩
  · rcases hs with ⟨rfl, _⟩ | ⟨hr, _⟩
    · exact Fo.le_self (Fo.lt_right h)
    · exact Fo.lt_le hr.inside.2
  · rcases hs with ⟨_, hn⟩ | ⟨hr, hm⟩
    · exact absurd (up u hu) (hn u)
    · exact Fo.le_of_not_lt (Fo.lt_right hu.inside.1) (Fo.lt_right hr.inside.1) (hm u (up u hu))
theorem spread_le (mo : Option Nat) (f t : Nat) (h : Fo.ltB f t = true) : Fo.leB (till mo f t) t = true := by
  rcases till_min mo [] [] f t with ⟨e, _⟩ | ⟨hu, _⟩
  · rw [e]; exact Fo.le_self (Fo.lt_right h)
  · exact Fo.lt_le hu.inside.2
theorem not_lt_same (mo : Option Nat) (ats : List Nat) (kds : List Int) (n f t : Nat) (h : ¬ Fo.ltB f t = true) : Fo.sameF (scTill mo ats kds n f t) t = true := by
  rcases scTill_min mo ats kds n f t with ⟨e, _⟩ | ⟨hr, _⟩
  · rw [e]; exact Fo.sameF_self t
  · exact absurd (Fo.lt_trans hr.inside.1 hr.inside.2) h
end Go.Proofs.Qxb6601926aMods
