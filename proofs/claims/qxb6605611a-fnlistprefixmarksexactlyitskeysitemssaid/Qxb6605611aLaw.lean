import Derived.WalkKit
import Derived.WalkLawsBesides
namespace Go.Proofs.Qxb6605611a

/-- Go's three-way comparison of two strings, as the law's own helper reckons it. -/
def cmpL (x y : List UInt8) : Int := if Op.bytesLess x y then -1 else if x == y then 0 else 1

theorem less_self (x : List UInt8) : Op.bytesLess x x = false := by
  induction x with
  | nil => rfl
  | cons a x ih => simp [Op.bytesLess, ih]

theorem cmpL_self (x : List UInt8) : cmpL x x = 0 := by simp [cmpL, less_self]

theorem less_cons (c : UInt8) (x y : List UInt8) : Op.bytesLess (c :: x) (c :: y) = Op.bytesLess x y := by simp [Op.bytesLess]

theorem cmpL_cons (c : UInt8) (x y : List UInt8) : cmpL (c :: x) (c :: y) = cmpL x y := by
  unfold cmpL
  rw [less_cons]
  simp

theorem cmpL_append (p x y : List UInt8) : cmpL (p ++ x) (p ++ y) = cmpL x y := by
  induction p with
  | nil => rfl
  | cons c p ih => rw [List.cons_append, List.cons_append, cmpL_cons, ih]

theorem cmpL_lt {c d : UInt8} (h : c < d) (x y : List UInt8) : cmpL (c :: x) (d :: y) = -1 := by
  unfold cmpL
  simp [Op.bytesLess, h]

theorem cmpL_gt {c d : UInt8} (h : d < c) (x y : List UInt8) : cmpL (c :: x) (d :: y) = 1 := by
  have h1 : ¬ c < d := by simp [UInt8.lt_iff_toNat_lt] at *; omega
  have h2 : (c == d) = false := by
    simp; intro e; subst e; exact absurd h (by simp)
  unfold cmpL
  have h3 : ¬ c = d := by simpa using h2
  simp [Op.bytesLess, h1, h3]

theorem cmpL_nil_cons (c : UInt8) (x : List UInt8) : cmpL [] (c :: x) = -1 := by simp [cmpL, Op.bytesLess]
theorem cmpL_cons_nil (c : UInt8) (x : List UInt8) : cmpL (c :: x) [] = 1 := by simp [cmpL, Op.bytesLess]

/-- Keys whose bytes all lie above the space: with a space and a tail behind each they compare as they do bare, where they differ. -/
theorem cmpL_key (a b ra rb : List UInt8) (ha : ∀ c ∈ a, 32 < c) (hb : ∀ c ∈ b, 32 < c) (hne : a ≠ b) : cmpL (a ++ 32 :: ra) (b ++ 32 :: rb) = cmpL a b := by
  induction a generalizing b with
  | nil =>
    cases b with
    | nil => exact absurd rfl hne
    | cons d b =>
      rw [List.nil_append, List.cons_append, cmpL_lt (hb d (by simp)), cmpL_nil_cons]
  | cons c a ih =>
    cases b with
    | nil => rw [List.nil_append, List.cons_append, cmpL_gt (ha c (by simp)), cmpL_cons_nil]
    | cons d b =>
      rw [List.cons_append, List.cons_append]
      by_cases h : c = d
      · subst h
        rw [cmpL_cons, cmpL_cons]
        exact ih b (fun x hx => ha x (by simp [hx])) (fun x hx => hb x (by simp [hx])) (fun e => hne (by rw [e]))
      · rcases Nat.lt_or_ge c.toNat d.toNat with h1 | h1
        · rw [cmpL_lt (UInt8.lt_iff_toNat_lt.2 h1), cmpL_lt (UInt8.lt_iff_toNat_lt.2 h1)]
        · have h2 : d < c := UInt8.lt_iff_toNat_lt.2 (by
            have : c.toNat ≠ d.toNat := fun e => h (UInt8.toNat_inj.1 e)
            omega)
          rw [cmpL_gt h2, cmpL_gt h2]

/-- Keys that hold no space: 'a' and a space begin 'b', a space and a tail exactly where a is b. -/
theorem prefix_key (a b r : List UInt8) (ha : ∀ c ∈ a, c ≠ 32) (hb : ∀ c ∈ b, c ≠ 32) : (a ++ [32]) <+: (b ++ 32 :: r) ↔ a = b := by
  induction a generalizing b with
  | nil =>
    cases b with
    | nil => simp
    | cons d b =>
      have := hb d (by simp)
      simp [List.cons_prefix_cons, Ne.symm this]
  | cons c a ih =>
    cases b with
    | nil =>
      have := ha c (by simp)
      simp [List.cons_prefix_cons, this]
    | cons d b =>
      rw [List.cons_append, List.cons_append, List.cons_prefix_cons, ih b (fun x hx => ha x (by simp [hx])) (fun x hx => hb x (by simp [hx]))]
      simp
end Go.Proofs.Qxb6605611a
