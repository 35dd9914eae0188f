import Derived.Test.Qxb6604371aS1
import Derived.WalkSpells
import Derived.BigQuiet
import Derived.RegionTactic
import Derived.BigRegion
import Derived.Deep.RegionWith
namespace Go.Proofs.Qxb6604371a
open Go.RowKit

/-- The four cells that the order reads of the lot at 'o'. -/
def LotAt (w : World) (blk o : Nat) (x : Lot) : Prop :=
  w.cell? ⟨blk, o, none⟩ = some (.string x.1) ∧ w.cell? ⟨blk, o + 1, none⟩ = some (.string x.2.1) ∧ w.cell? ⟨blk, o + 2, none⟩ = some (.string x.2.2.1) ∧ w.cell? ⟨blk, o + 3, none⟩ = some (.int .i32 x.2.2.2)

theorem drewN_two (w : World) (p q : Nat) : (w.drewN p).drewN q = w.drewN (p + q) := by simp [World.drewN, Nat.add_assoc]

/-- The world is as it was, but for draws. -/
def OnlyDrew (w w' : World) : Prop := ∃ q, w' = w.drewN q
theorem OnlyDrew.one (w : World) (p : Nat) : OnlyDrew w (w.drewN p) := ⟨p, rfl⟩
theorem OnlyDrew.two (w : World) (p q : Nat) : OnlyDrew w ((w.drewN p).drewN q) := ⟨_, drewN_two _ _ _⟩
theorem OnlyDrew.three (w : World) (p q r : Nat) : OnlyDrew w (((w.drewN p).drewN q).drewN r) := ⟨_, by rw [drewN_two, drewN_two]⟩
theorem OnlyDrew.four (w : World) (p q r s : Nat) : OnlyDrew w ((((w.drewN p).drewN q).drewN r).drewN s) := ⟨_, by rw [drewN_two, drewN_two, drewN_two]⟩

set_option maxHeartbeats 1000000 in
theorem holdingOrder (blk o1 o2 : Nat) (x y : Lot) (w : World) (hx : LotAt w blk o1 x) (hy : LotAt w blk o2 y) :
    Calls Try.prog 29 #[.pointer (some ⟨blk, o1, none⟩), .pointer (some ⟨blk, o2, none⟩)] w fun e w' => e = .returned (.bool (ltLot x y)) ∧ OnlyDrew w w' := by
  obtain ⟨x0, x1, x2, x3⟩ := hx
  obtain ⟨y0, y1, y2, y3⟩ := hy
  obtain ⟨a, b, c, d⟩ := x
  obtain ⟨a', b', c', d'⟩ := y
  simp only at x0 x1 x2 x3 y0 y1 y2 y3
  cases h1 : (a.toList == a'.toList)
  case false =>
    have E : Hid (ltLot (a, b, c, d) (a', b', c', d') = Op.bytesLess a.toList a'.toList) := by
      show _ = _
      simp at h1
      simp [ltLot, lex, readOf, h1]
    generalize ltLot (a, b, c, d) (a', b', c', d') = r at E ⊢
    go_enter Try.func29, Try.ntmps29
    go_wp2
    go_quiet (fail)
    go_wp2
    go_quiet (fail)
    go_wp2
    go_ret
    exact ⟨by rw [E.out]; rfl, .two _ _ _⟩
  case true =>
  cases h2 : (c.toList == c'.toList)
  case false =>
    have E : Hid (ltLot (a, b, c, d) (a', b', c', d') = Op.bytesLess c.toList c'.toList) := by
      show _ = _
      simp at h1 h2
      simp [ltLot, lex, readOf, h1, h2]
    generalize ltLot (a, b, c, d) (a', b', c', d') = r at E ⊢
    go_enter Try.func29, Try.ntmps29
    go_wp2
    go_quiet (fail)
    go_wp2
    go_quiet (fail)
    go_wp2
    go_quiet (fail)
    go_wp2
    go_ret
    exact ⟨by rw [E.out]; rfl, .three _ _ _ _⟩
  case true =>
  cases h3 : (d == d')
  case false =>
    have E : Hid (ltLot (a, b, c, d) (a', b', c', d') = decide (d < d')) := by
      show _ = _
      simp at h1 h2 h3
      simp [ltLot, lex, readOf, h1, h2, h3]
    generalize ltLot (a, b, c, d) (a', b', c', d') = r at E ⊢
    go_enter Try.func29, Try.ntmps29
    go_wp2
    go_quiet (fail)
    go_wp2
    go_quiet (fail)
    go_wp2
    go_quiet (fail)
    go_wp2
    go_quiet (fail)
    go_wp2
    go_ret
    exact ⟨by rw [E.out]; rfl, .four _ _ _ _ _⟩
  case true =>
    have E : Hid (ltLot (a, b, c, d) (a', b', c', d') = Op.bytesLess b.toList b'.toList) := by
      show _ = _
      simp at h1 h2 h3
      simp [ltLot, lex, readOf, h1, h2, h3]
    generalize ltLot (a, b, c, d) (a', b', c', d') = r at E ⊢
    go_enter Try.func29, Try.ntmps29
    go_wp2
    go_quiet (fail)
    go_wp2
    go_quiet (fail)
    go_wp2
    go_quiet (fail)
    go_wp2
    go_quiet (fail)
    go_wp2
    go_ret
    exact ⟨by rw [E.out]; rfl, .four _ _ _ _ _⟩

set_option maxHeartbeats 1000000 in
theorem lessClosure (blk off c Bs size : Nat) (W : World) (G : Nat → Lot) (hs : W.cell? ⟨Bs, 0, none⟩ = some (.slice (some ⟨blk, off, none⟩) size c))
    (hc : ∀ t, t < size → LotAt W blk (off + t * 7) (G t)) (i j : Nat) (hi : i < size) (hj : j < size) (_hsz : size < 4611686018427387904) :
    Calls Try.prog 28 #[.int .i64 i, .int .i64 j, .pointer (some ⟨Bs, 0, none⟩)] W fun e w' => e = .returned (.bool (ltLot (G i) (G j))) ∧ OnlyDrew W w' := by
  have ci := hc i hi
  have cj := hc j hj
  clear hc
  generalize G i = x at *
  generalize G j = y at *
  have M : Hid (∀ n, Calls Try.prog 29 #[.pointer (some ⟨blk, off + i * 7, none⟩), .pointer (some ⟨blk, off + j * 7, none⟩)] (W.drewN n) fun e w' => e = .returned (.bool (ltLot x y)) ∧ ∃ m, w' = (W.drewN n).drewN m) := fun n => holdingOrder _ _ _ _ _ (W.drewN n) ci cj
  clear ci cj
  go_enter Try.func28, Try.ntmps28
  go_wp2
  go_quiet (first | (go_at_call 29; refine Calls.quiet_of (M.out _)))
  go_wp2
  go_ret
  exact ⟨rfl, .one _ _⟩
end Go.Proofs.Qxb6604371a
