import Derived.Test.Qxb6604371aA6
import Derived.Test.Qxb6604371aA1
namespace Go.Proofs.Qxb6604371a
open Go.RowKit

/-- The latest date, after the first 'k' conversions. -/
def latTo (g d : Int) (f : Nat → Int) : Nat → Int
  | 0 => if g < d then d else g
  | k + 1 => if latTo g d f k < f k then f k else latTo g d f k

/-- The kind that the law reckons for the date 'L', after the first 'k' conversions. -/
def kindTo (g d : Int) (f : Nat → Int) (L : Int) : Nat → Int
  | 0 => if d = L then 1 else if g = L then 0 else -1
  | k + 1 => if f k = L then 2 else kindTo g d f L k

theorem kindTo_le (g d : Int) (f : Nat → Int) (L : Int) (k : Nat) : -1 ≤ kindTo g d f L k ∧ kindTo g d f L k ≤ 2 := by
  induction k with
  | zero =>
    unfold kindTo
    split
    · omega
    · split <;> omega
  | succ k ih => unfold kindTo; split <;> omega

theorem latTo_zero (g d : Int) (f : Nat → Int) : latTo g d f 0 = if g < d then d else g := rfl
theorem latTo_succ (g d : Int) (f : Nat → Int) (k : Nat) : latTo g d f (k + 1) = if latTo g d f k < f k then f k else latTo g d f k := rfl
theorem kindTo_zero (g d : Int) (f : Nat → Int) (L : Int) : kindTo g d f L 0 = if d = L then 1 else if g = L then 0 else -1 := rfl
theorem kindTo_succ (g d : Int) (f : Nat → Int) (L : Int) (k : Nat) : kindTo g d f L (k + 1) = if f k = L then 2 else kindTo g d f L k := rfl

theorem bef_iff (a b c d : Int) : bef a b c d = true ↔ (a < c ∨ (a = c ∧ b < d)) := by simp [bef]

theorem lastTo_eq (g d : Int) (f : Nat → Int) (k : Nat) : lastTo g d f k = (latTo g d f k, kindTo g d f (latTo g d f k) k) := by
  induction k with
  | zero =>
    show later (g, 0) (d, 1) = _
    unfold later
    rw [latTo_zero, kindTo_zero]
    by_cases h : g < d
    · rw [if_pos ((bef_iff _ _ _ _).2 (.inl h)), if_pos h, if_pos rfl]
    · rw [if_neg h]
      by_cases h2 : d = g
      · subst h2; rw [if_pos ((bef_iff _ _ _ _).2 (.inr ⟨rfl, by omega⟩)), if_pos rfl]
      · rw [if_neg (fun hh => by have := (bef_iff _ _ _ _).1 hh; omega), if_neg h2, if_pos rfl]
  | succ k ih =>
    show later (lastTo g d f k) (f k, 2) = _
    rw [ih]
    unfold later
    have hk := kindTo_le g d f (latTo g d f k) k
    rw [latTo_succ, kindTo_succ]
    generalize latTo g d f k = L at *
    by_cases h : L < f k
    · rw [if_pos ((bef_iff _ _ _ _).2 (.inl h)), if_pos h, if_pos rfl]
    · rw [if_neg h]
      by_cases h2 : f k = L
      · rw [if_pos h2]
        by_cases h3 : kindTo g d f L k < 2
        · rw [if_pos ((bef_iff _ _ _ _).2 (.inr ⟨h2.symm, h3⟩)), h2]
        · rw [if_neg (fun hh => by have := (bef_iff _ _ _ _).1 hh; omega), show kindTo g d f L k = 2 by omega]
      · rw [if_neg (fun hh => by have := (bef_iff _ _ _ _).1 hh; simp at this; omega), if_neg h2]

/-- The cells of a slice of strings, and how long the strings are, as the walks of the guards ask it. -/
theorem StrRow.of {w : World} {a : Option Addr} {n : Nat} {s : Nat → ByteArray} (h : Holds w a n fun i => .string (s i)) (hs : ∀ i, i < n → (s i).size ≤ maxLen) : StrRow w a n := by
  intro i hi
  obtain ⟨b, off, ha, hc⟩ := h i hi
  exact ⟨b, off, s i, ha, hc, hs i hi⟩

theorem srcOf_false (n : Nat) {α : Type} (f : Nat → α) : (fun i => f (srcOf false n i)) = f := by funext i; simp [srcOf]

theorem newEvent' (d k : Int) (w : World) :
    Calls Try.prog 12 #[.int .i32 d, .int .i64 k] w fun e w' => e = .returned (.agg #[.int .i32 d, .int .i64 k]) ∧ Below w.heap.size w w' := by
  refine (newEvent d k w).mono ?_
  rintro e w' ⟨rfl, rfl⟩
  exact ⟨rfl, (Below.refl _ _).alloc (Nat.le_refl _) _⟩

/-- What 'ZZcheckOrder' hands out of the answer 'r' on the event (ed, ek), the latest being (L, K). -/
def outOf (r : Bool) (ed ek L K : Int) : Value :=
  if r then .tuple #[.bool true, .bool true, .int .i32 ed, .int .i64 ek, .int .i32 L, .int .i64 K] else .tuple #[.bool false, .bool false, .int .i32 0, .int .i64 0, .int .i32 0, .int .i64 0]

theorem zzCheckOrder (d g ed ek : Int) (a1 a : Option Addr) (n1 c1 n c : Nat) (f : Nat → Int) (h : Nat → ByteArray) (w : World) (hn : n ≤ 65536) (hc : Convs w a n f h) (L K : Int) (hL : lastTo g d f n = (L, K)) :
    Calls Try.prog 13 #[.agg #[.int .i32 d, .slice a1 n1 c1, .slice a n c, .int .i32 g, .string ⟨#[]⟩], .agg #[.int .i32 ed, .int .i64 ek]] w fun e w' =>
      e = .returned (outOf (bef ed ek L K) ed ek L K) ∧ Below w.heap.size w w' := by
  cases hb : bef ed ek L K
  · have := zzCheckOrder_no d g ed ek a1 a n1 c1 n c f h w hn hc (by rw [hL]; exact hb)
    exact this
  · have := zzCheckOrder_yes d g ed ek a1 a n1 c1 n c f h w hn hc (by rw [hL]; exact hb)
    rw [hL] at this
    exact this
end Go.Proofs.Qxb6604371a
