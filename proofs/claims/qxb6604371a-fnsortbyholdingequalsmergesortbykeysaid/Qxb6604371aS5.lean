import Derived.Test.Qxb6604371aS3
import Derived.Test.Qxb6604371aS4
import Derived.Test.Qxb6604371aQt
namespace Go.Proofs.Qxb6604371a
open Go.RowKit

/-- A lot, as a value. -/
def lotVal (x : Lot) : Value := .agg #[.string x.1, .string x.2.1, .string x.2.2.1, .int .i32 x.2.2.2, .int .i32 0, .pointer none, .int .i32 0]
/-- A lot's key, as a value. -/
def keyVal (x : Lot) : Value := .agg #[.string x.1, .string x.2.1, .string x.2.2.1, .int .i32 x.2.2.2]

theorem newLot (a b c : ByteArray) (d : Int) (w : World) :
    Calls Try.prog 22 #[.string a, .string b, .string c, .int .i32 d] w fun e w' => e = .returned (lotVal (a, b, c, d)) ∧ w' = w.alloc (.cells #[.string a, .string b, .string c, .int .i32 d, .int .i32 0, .pointer none, .int .i32 0] 54) := by
  go_enter Try.func22, Try.ntmps22
  go_wp2
  exact bodyPost_ret (v := .agg #[.string a, .string b, .string c, .int .i32 d, .int .i32 0, .pointer none, .int .i32 0]) (by simp [results, Try.results22, go_sem]) rfl ⟨rfl, rfl⟩

theorem lotKey (x : Lot) (w : World) :
    Calls Try.prog 20 #[lotVal x] w fun e w' => e = .returned (keyVal x) ∧ ∃ s, w' = stray w s := by
  obtain ⟨a, b, c, d⟩ := x
  unfold lotVal keyVal
  go_enter Try.func20, Try.ntmps20
  go_wp2
  refine bodyPost_ret (v := .agg #[.string a, .string b, .string c, .int .i32 d]) (by simp [results, Try.results20, go_sem]) rfl ⟨rfl, ?_⟩
  exact ⟨_, stray_two _ _ _⟩

theorem cmpL_neg {x y : List UInt8} : decide (cmpL x y < 0) = Op.bytesLess x y := by
  unfold cmpL
  cases h : Op.bytesLess x y
  · by_cases h2 : x == y <;> simp [h2]
  · simp
theorem cmpL_zero {x y : List UInt8} : (cmpL x y == 0) = (x == y) := by
  unfold cmpL
  cases h : Op.bytesLess x y
  · by_cases h2 : x == y <;> simp [h2]
  · have : (x == y) = false := beq_false_of_ne (fun e => by rw [e, less_self] at h; exact absurd h (by simp))
    rw [this]; rfl

/-- The strings of a lot are of a length that Go's machines can hold. -/
def Fits (x : Lot) : Prop := x.1.size ≤ maxLen ∧ x.2.1.size ≤ maxLen ∧ x.2.2.1.size ≤ maxLen

set_option maxHeartbeats 1000000 in
theorem keyLess (x y : Lot) (hx : Fits x) (w : World) :
    Calls Try.prog 23 #[keyVal x, keyVal y] w fun e w' => e = .returned (.bool (ltLot x y)) ∧ ∃ s, w' = stray w s := by
  obtain ⟨a, b, c, d⟩ := x
  obtain ⟨a', b', c', d'⟩ := y
  obtain ⟨z1, z2, z3⟩ := hx
  simp only at z1 z2 z3
  unfold keyVal
  have C1 := cmpStr a a' z1
  have C2 := cmpStr c c' z3
  have C3 := cmpStr b b' z2
  have B1 : Hid (∀ (o1 o2 : Obj) (q : Nat), ∃ s, ((w.alloc o1).alloc o2).drewN q = stray w s) := fun o1 o2 q => ⟨_, by rw [stray_two, stray_drew]⟩
  clear z1 z2 z3
  cases h1 : (a.toList == a'.toList)
  case false =>
    have E : Hid (ltLot (a, b, c, d) (a', b', c', d') = decide (cmpL a.toList a'.toList < 0)) := by
      show _ = _
      rw [cmpL_neg]
      simp at h1
      simp [ltLot, lex, readOf, h1]
    have Z1 : (cmpL a.toList a'.toList == 0) = false := by rw [cmpL_zero, h1]
    generalize cmpL a.toList a'.toList = r1 at *
    generalize ltLot (a, b, c, d) (a', b', c', d') = r at *
    clear h1 C2 C3
    go_enter Try.func23, Try.ntmps23
    go_wp2_with fail
    refine (C1 _).mono ?_
    rintro e w' ⟨rfl, q, rfl⟩
    go_wp2_with fail
    go_ret
    exact ⟨by rw [E.out]; rfl, B1.out _ _ _⟩
  case true =>
  have Z1 : (cmpL a.toList a'.toList == 0) = true := by rw [cmpL_zero, h1]
  generalize cmpL a.toList a'.toList = r1 at *
  cases h2 : (c.toList == c'.toList)
  case false =>
    have E : Hid (ltLot (a, b, c, d) (a', b', c', d') = decide (cmpL c.toList c'.toList < 0)) := by
      show _ = _
      rw [cmpL_neg]
      simp at h1 h2
      simp [ltLot, lex, readOf, h1, h2]
    have Z2 : (cmpL c.toList c'.toList == 0) = false := by rw [cmpL_zero, h2]
    generalize cmpL c.toList c'.toList = r2 at *
    generalize ltLot (a, b, c, d) (a', b', c', d') = r at *
    clear h1 h2 C3
    go_enter Try.func23, Try.ntmps23
    go_wp2_with fail
    refine (C1 _).mono ?_
    rintro e w' ⟨rfl, q, rfl⟩
    go_wp2_with fail
    refine (C2 _).mono ?_
    rintro e w' ⟨rfl, q2, rfl⟩
    go_wp2_with fail
    go_ret
    exact ⟨by rw [E.out]; rfl, B1.out _ _ _⟩
  case true =>
  have Z2 : (cmpL c.toList c'.toList == 0) = true := by rw [cmpL_zero, h2]
  generalize cmpL c.toList c'.toList = r2 at *
  have C4 := cmpInt d d'
  cases h3 : (d == d')
  case false =>
    have E : Hid (ltLot (a, b, c, d) (a', b', c', d') = decide ((if d < d' then -1 else if d' < d then 1 else 0 : Int) < 0)) := by
      show _ = _
      simp at h1 h2 h3
      have : decide ((if d < d' then -1 else if d' < d then 1 else 0 : Int) < 0) = decide (d < d') := by
        by_cases q1 : d < d'
        · simp [q1]
        · by_cases q2 : d' < d <;> simp [q1, q2]
      rw [this]
      simp [ltLot, lex, readOf, h1, h2, h3]
    have Z3 : ((if d < d' then -1 else if d' < d then 1 else 0 : Int) == 0) = false := by
      simp at h3
      by_cases q1 : d < d'
      · simp [q1]
      · by_cases q2 : d' < d
        · simp [q1, q2]
        · exact absurd (by omega) h3
    generalize (if d < d' then -1 else if d' < d then 1 else 0 : Int) = r3 at *
    generalize ltLot (a, b, c, d) (a', b', c', d') = r at *
    clear h1 h2 h3 C3
    go_enter Try.func23, Try.ntmps23
    go_wp2_with fail
    refine (C1 _).mono ?_
    rintro e w' ⟨rfl, q, rfl⟩
    go_wp2_with fail
    refine (C2 _).mono ?_
    rintro e w' ⟨rfl, q2, rfl⟩
    go_wp2_with fail
    refine (C4 _).mono ?_
    rintro e w' ⟨rfl, rfl⟩
    go_wp2_with fail
    go_ret
    exact ⟨by rw [E.out]; rfl, B1.out _ _ _⟩
  case true =>
    have E : Hid (ltLot (a, b, c, d) (a', b', c', d') = decide (cmpL b.toList b'.toList < 0)) := by
      show _ = _
      rw [cmpL_neg]
      simp at h1 h2 h3
      simp [ltLot, lex, readOf, h1, h2, h3]
    have Z3 : ((if d < d' then -1 else if d' < d then 1 else 0 : Int) == 0) = true := by
      simp at h3
      simp [h3]
    generalize (if d < d' then -1 else if d' < d then 1 else 0 : Int) = r3 at *
    generalize cmpL b.toList b'.toList = r4 at *
    generalize ltLot (a, b, c, d) (a', b', c', d') = r at *
    clear h1 h2 h3
    go_enter Try.func23, Try.ntmps23
    go_wp2_with fail
    refine (C1 _).mono ?_
    rintro e w' ⟨rfl, q, rfl⟩
    go_wp2_with fail
    refine (C2 _).mono ?_
    rintro e w' ⟨rfl, q2, rfl⟩
    go_wp2_with fail
    refine (C4 _).mono ?_
    rintro e w' ⟨rfl, rfl⟩
    go_wp2_with fail
    refine (C3 _).mono ?_
    rintro e w' ⟨rfl, q4, rfl⟩
    go_wp2_with fail
    go_ret
    exact ⟨by rw [E.out]; rfl, B1.out _ _ _⟩
end Go.Proofs.Qxb6604371a
