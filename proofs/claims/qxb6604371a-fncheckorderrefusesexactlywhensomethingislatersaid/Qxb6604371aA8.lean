import Derived.Test.Qxb6604371aA7
namespace Go.Proofs.Qxb6604371a
open Go.RowKit

/-- The events that an entry records. -/
def Rec (g d : Int) (f : Nat → Int) (n : Nat) (x y : Int) : Prop := (x = g ∧ y = 0) ∨ (x = d ∧ y = 1) ∨ ∃ i, i < n ∧ x = f i ∧ y = 2

theorem bef_false_iff (a b c d : Int) : bef a b c d = false ↔ ¬ (a < c ∨ (a = c ∧ b < d)) := by simp [bef]

theorem lastTo_succ (g d : Int) (f : Nat → Int) (k : Nat) : lastTo g d f (k + 1) = later (lastTo g d f k) (f k, 2) := rfl

theorem later_cases (p q : Int × Int) : (later p q = q ∧ bef p.1 p.2 q.1 q.2 = true) ∨ (later p q = p ∧ bef p.1 p.2 q.1 q.2 = false) := by
  unfold later
  cases h : bef p.1 p.2 q.1 q.2 <;> simp

theorem lastTo_mem (g d : Int) (f : Nat → Int) (n : Nat) : Rec g d f n (lastTo g d f n).1 (lastTo g d f n).2 := by
  induction n with
  | zero =>
    show Rec g d f 0 (later (g, 0) (d, 1)).1 (later (g, 0) (d, 1)).2
    rcases later_cases (g, 0) (d, 1) with ⟨h, _⟩ | ⟨h, _⟩ <;> rw [h]
    · exact .inr (.inl ⟨rfl, rfl⟩)
    · exact .inl ⟨rfl, rfl⟩
  | succ k ih =>
    rw [lastTo_succ]
    rcases later_cases (lastTo g d f k) (f k, 2) with ⟨h, _⟩ | ⟨h, _⟩ <;> rw [h]
    · exact .inr (.inr ⟨k, by omega, rfl, rfl⟩)
    · rcases ih with h | h | ⟨i, hi, h⟩
      · exact .inl h
      · exact .inr (.inl h)
      · exact .inr (.inr ⟨i, by omega, h⟩)

theorem lastTo_ub (g d : Int) (f : Nat → Int) (n : Nat) (x y : Int) (hr : Rec g d f n x y) : bef (lastTo g d f n).1 (lastTo g d f n).2 x y = false := by
  induction n with
  | zero =>
    show bef (later (g, 0) (d, 1)).1 (later (g, 0) (d, 1)).2 x y = false
    rcases later_cases (g, 0) (d, 1) with ⟨h, h2⟩ | ⟨h, h2⟩ <;> rw [h]
    · have h3 := (bef_iff _ _ _ _).1 h2
      rw [bef_false_iff]
      rcases hr with h | h | ⟨i, hi, _⟩
      · simp at h3 ⊢; omega
      · simp at h3 ⊢; omega
      · omega
    · have h3 := (bef_false_iff _ _ _ _).1 h2
      rw [bef_false_iff]
      rcases hr with h | h | ⟨i, hi, _⟩
      · simp at h3 ⊢; omega
      · simp at h3 ⊢; omega
      · omega
  | succ k ih =>
    rw [lastTo_succ]
    have hr' : Rec g d f k x y ∨ (x = f k ∧ y = 2) := by
      rcases hr with h | h | ⟨i, hi, h⟩
      · exact .inl (.inl h)
      · exact .inl (.inr (.inl h))
      · by_cases e : i = k
        · subst e; exact .inr h
        · exact .inl (.inr (.inr ⟨i, by omega, h⟩))
    rcases later_cases (lastTo g d f k) (f k, 2) with ⟨h, h2⟩ | ⟨h, h2⟩ <;> rw [h]
    · have h3 := (bef_iff _ _ _ _).1 h2
      rw [bef_false_iff]
      rcases hr' with h | ⟨rfl, rfl⟩
      · have h4 := (bef_false_iff _ _ _ _).1 (ih h)
        simp at h3 ⊢; omega
      · simp
    · rcases hr' with h | ⟨rfl, rfl⟩
      · exact ih h
      · exact h2

/-- Two events, each recorded and neither before a recorded one, are one. -/
theorem last_unique {g d : Int} {f f' : Nat → Int} {n : Nat} (h : ∀ x y, Rec g d f n x y ↔ Rec g d f' n x y) : lastTo g d f n = lastTo g d f' n := by
  have a := (bef_false_iff _ _ _ _).1 (lastTo_ub g d f n _ _ ((h _ _).2 (lastTo_mem g d f' n)))
  have b := (bef_false_iff _ _ _ _).1 (lastTo_ub g d f' n _ _ ((h _ _).1 (lastTo_mem g d f n)))
  refine Prod.ext ?_ ?_ <;> omega

theorem last_rev (g d : Int) (f : Nat → Int) (n : Nat) : lastTo g d (fun i => f (srcOf true n i)) n = lastTo g d f n := by
  refine last_unique fun x y => ?_
  unfold Rec srcOf
  simp only [if_true]
  constructor
  · rintro (h | h | ⟨i, hi, h⟩)
    · exact .inl h
    · exact .inr (.inl h)
    · exact .inr (.inr ⟨n - 1 - i, by omega, h⟩)
  · rintro (h | h | ⟨i, hi, h⟩)
    · exact .inl h
    · exact .inr (.inl h)
    · exact .inr (.inr ⟨n - 1 - i, by omega, by rw [show n - 1 - (n - 1 - i) = i by omega]; exact h⟩)

/-- Is one of the events looked at so far after (ed, ek)? -/
def someTo (ed ek g d : Int) (f : Nat → Int) : Nat → Bool
  | 0 => bef ed ek g 0 || bef ed ek d 1
  | k + 1 => someTo ed ek g d f k || bef ed ek (f k) 2
theorem someTo_zero (ed ek g d : Int) (f : Nat → Int) : someTo ed ek g d f 0 = (bef ed ek g 0 || bef ed ek d 1) := rfl
theorem someTo_succ (ed ek g d : Int) (f : Nat → Int) (k : Nat) : someTo ed ek g d f (k + 1) = (someTo ed ek g d f k || bef ed ek (f k) 2) := rfl

theorem someTo_iff (ed ek g d : Int) (f : Nat → Int) (n : Nat) : someTo ed ek g d f n = true ↔ ∃ x y, Rec g d f n x y ∧ bef ed ek x y = true := by
  induction n with
  | zero =>
    rw [someTo_zero, Bool.or_eq_true]
    constructor
    · rintro (h | h)
      · exact ⟨g, 0, .inl ⟨rfl, rfl⟩, h⟩
      · exact ⟨d, 1, .inr (.inl ⟨rfl, rfl⟩), h⟩
    · rintro ⟨x, y, (⟨rfl, rfl⟩ | ⟨rfl, rfl⟩ | ⟨i, hi, _⟩), h⟩
      · exact .inl h
      · exact .inr h
      · omega
  | succ k ih =>
    rw [someTo_succ, Bool.or_eq_true, ih]
    constructor
    · rintro (⟨x, y, h, hb⟩ | h)
      · refine ⟨x, y, ?_, hb⟩
        rcases h with h | h | ⟨i, hi, h⟩
        · exact .inl h
        · exact .inr (.inl h)
        · exact .inr (.inr ⟨i, by omega, h⟩)
      · exact ⟨f k, 2, .inr (.inr ⟨k, by omega, rfl, rfl⟩), h⟩
    · rintro ⟨x, y, (h | h | ⟨i, hi, h⟩), hb⟩
      · exact .inl ⟨x, y, .inl h, hb⟩
      · exact .inl ⟨x, y, .inr (.inl h), hb⟩
      · by_cases e : i = k
        · subst e; obtain ⟨rfl, rfl⟩ := h; exact .inr hb
        · exact .inl ⟨x, y, .inr (.inr ⟨i, by omega, h⟩), hb⟩

theorem someTo_eq {ed ek g d : Int} {f : Nat → Int} {n : Nat} {L K : Int} (hL : lastTo g d f n = (L, K)) : someTo ed ek g d f n = bef ed ek L K := by
  rw [Bool.eq_iff_iff, someTo_iff]
  have hm := lastTo_mem g d f n
  have hu := lastTo_ub g d f n
  rw [hL] at hm hu
  constructor
  · rintro ⟨x, y, hr, hb⟩
    have a := (bef_false_iff _ _ _ _).1 (hu x y hr)
    have b := (bef_iff _ _ _ _).1 hb
    rw [bef_iff]
    simp at a; omega
  · intro h
    exact ⟨L, K, hm, h⟩

/-- Is (L, K) one of the events looked at so far? -/
def recTo (L K g d : Int) (f : Nat → Int) : Nat → Bool
  | 0 => (L == g && K == 0) || (L == d && K == 1)
  | k + 1 => recTo L K g d f k || (L == f k && K == 2)
theorem recTo_zero (L K g d : Int) (f : Nat → Int) : recTo L K g d f 0 = ((L == g && K == 0) || (L == d && K == 1)) := rfl
theorem recTo_succ (L K g d : Int) (f : Nat → Int) (k : Nat) : recTo L K g d f (k + 1) = (recTo L K g d f k || (L == f k && K == 2)) := rfl

theorem recTo_of {L K g d : Int} {f : Nat → Int} {n : Nat} (h : Rec g d f n L K) : recTo L K g d f n = true := by
  induction n with
  | zero =>
    rw [recTo_zero]
    rcases h with ⟨rfl, rfl⟩ | ⟨rfl, rfl⟩ | ⟨i, hi, _⟩
    · simp
    · simp
    · omega
  | succ k ih =>
    rw [recTo_succ]
    rcases h with h | h | ⟨i, hi, h⟩
    · rw [ih (.inl h)]; rfl
    · rw [ih (.inr (.inl h))]; rfl
    · by_cases e : i = k
      · subst e; obtain ⟨rfl, rfl⟩ := h; simp
      · rw [ih (.inr (.inr ⟨i, by omega, h⟩))]; rfl

theorem recTo_eq {g d : Int} {f : Nat → Int} {n : Nat} {L K : Int} (hL : lastTo g d f n = (L, K)) : recTo L K g d f n = true := by
  have hm := lastTo_mem g d f n
  rw [hL] at hm
  exact recTo_of hm

theorem none_after {g d : Int} {f : Nat → Int} {n : Nat} {L K : Int} (hL : lastTo g d f n = (L, K)) : bef L K g 0 = false ∧ bef L K d 1 = false ∧ ∀ i, i < n → bef L K (f i) 2 = false := by
  have hu := lastTo_ub g d f n
  rw [hL] at hu
  exact ⟨hu g 0 (.inl ⟨rfl, rfl⟩), hu d 1 (.inr (.inl ⟨rfl, rfl⟩)), fun i hi => hu _ _ (.inr (.inr ⟨i, hi, rfl, rfl⟩))⟩

/-- 'zzLater'. -/
theorem zzLater (d k d2 k2 : Int) (w : World) :
    Calls Try.prog 15 #[.int .i32 d, .int .i64 k, .int .i32 d2, .int .i64 k2] w fun e w' => e = .returned (.bool (bef d2 k2 d k)) ∧ w' = w := by
  cases q : (d == d2)
  · have hne : d ≠ d2 := by simpa using q
    have H : Hid (bef d2 k2 d k = decide (d2 < d)) := by
      show _ = _
      rw [Bool.eq_iff_iff, bef_iff, decide_eq_true_eq]; omega
    clear hne
    go_enter Try.func15, Try.ntmps15
    go_wp2
    go_ret
    exact ⟨by rw [H.out]; rfl, rfl⟩
  · have he : d = d2 := by simpa using q
    have H : Hid (bef d2 k2 d k = decide (k2 < k)) := by
      show _ = _
      rw [Bool.eq_iff_iff, bef_iff, decide_eq_true_eq]; omega
    clear he
    go_enter Try.func15, Try.ntmps15
    go_wp2
    go_ret
    exact ⟨by rw [H.out]; rfl, rfl⟩
end Go.Proofs.Qxb6604371a
