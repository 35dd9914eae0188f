import Derived.Test.Qxb6604371aRows
import Derived.Test.Qxb6604371aMem
import Derived.WalkKit
import Derived.ProofKit
import Derived.OpenShut
import Derived.ShutString
import Derived.ChangeOld
import Derived.Below
import Derived.SliceStrings
namespace Go.Proofs.Qxb6604371a
open Go.ChangeShapes Go.WideShapes Go.ChangeAt Go.RowKit

theorem own : ownKnob Try.prog.godebug = none := by kernel_rfl
theorem laidOut : laidOutB Try.prog = true := by kernel_rfl
theorem Try.cells9 : Try.prog.cellsOf 9 = 1 := by kernel_rfl
theorem Try.cells21 : Try.prog.cellsOf 21 = 1 := by kernel_rfl

theorem holds_of_cells {w : World} {a : Addr} {n m : Nat} {f : Nat → Value} (hn : n ≤ m) (h : ∀ i, i < m → w.cell? (a.add i) = some (f i)) : Holds w (some a) n f := by
  intro i hi
  have hc := h i (by omega)
  obtain ⟨b, off, spot⟩ := a
  have hs : spot = none := by simpa [Addr.add] using World.cell?_spot (h 0 (by omega))
  subst hs
  exact ⟨b, off, rfl, by rw [← add_plain]; exact hc⟩

/-- What the walks are told of a slice of strings that came in. -/
def StrsIn (w : World) (a : Option Addr) (n : Nat) (s : Nat → ByteArray) : Prop :=
  Holds w a n (fun i => .string (s i)) ∧ (∀ i, i < n → (s i).size ≤ maxLen) ∧ (a = none → n = 0) ∧ n ≤ maxLen
/-- What the walks are told of a slice of int32 that came in. -/
def IntsIn (w : World) (a : Option Addr) (n : Nat) (f : Nat → Int) : Prop :=
  Holds w a n (fun i => .int .i32 (f i)) ∧ (∀ i, i < n → (Lit.int .i32 (f i)).wf = true) ∧ (a = none → n = 0) ∧ n ≤ maxLen

theorem open_strs_in {H : Type} {enc : TypeId × Value → H} {W : World} {a : Option Addr} {n c : Nat} {d : DataW H} {p : List MemPlace}
    (h : DataW.Trod enc Try.prog W 0 (fun _ => true) true 22 (.slice a n c) d p) : ∃ s, StrsIn W a n s := by
  obtain ⟨fuel, hf⟩ := h
  rcases open_strings Try.underlying22 Try.underlying9 Try.cells9 hf with ⟨hcs, _⟩ | ⟨x, l, c', ss, hcs, _, hl, hm, hz, _, hcell, hsz⟩
  · simp [Value.cells] at hcs
    obtain ⟨rfl, rfl, rfl⟩ := hcs
    exact ⟨fun _ => ByteArray.empty, fun i hi => absurd hi (Nat.not_lt_zero _), fun i hi => absurd hi (Nat.not_lt_zero _), fun _ => rfl, Nat.zero_le _⟩
  · simp [Value.cells] at hcs
    obtain ⟨rfl, rfl, rfl⟩ := hcs
    simp at hz
    refine ⟨fun i => ss.getD i ByteArray.empty, holds_of_cells (m := ss.length) (by omega) hcell, fun i hi => ?_, fun h => (nomatch h), by omega⟩
    have hi' : i < ss.length := by omega
    refine hsz _ ?_
    dsimp only
    rw [List.getD_eq_getElem?_getD, List.getElem?_eq_getElem hi']
    exact List.getElem_mem hi'

theorem open_ints_in {H : Type} {enc : TypeId × Value → H} {W : World} {a : Option Addr} {n c : Nat} {d : DataW H} {p : List MemPlace}
    (h : DataW.Trod enc Try.prog W 0 (fun _ => true) true 23 (.slice a n c) d p) : ∃ f, IntsIn W a n f := by
  obtain ⟨fuel, hf⟩ := h
  rcases open_ints Try.underlying23 Try.underlying21 Try.cells21 hf with ⟨hcs, _⟩ | ⟨x, l, c', zs, hcs, _, hl, hm, hz, _, hcell, hsz⟩
  · simp [Value.cells] at hcs
    obtain ⟨rfl, rfl, rfl⟩ := hcs
    exact ⟨fun _ => 0, fun i hi => absurd hi (Nat.not_lt_zero _), fun i hi => absurd hi (Nat.not_lt_zero _), fun _ => rfl, Nat.zero_le _⟩
  · simp [Value.cells] at hcs
    obtain ⟨rfl, rfl, rfl⟩ := hcs
    simp at hz
    refine ⟨fun i => zs.getD i 0, holds_of_cells (m := zs.length) (by omega) hcell, fun i hi => ?_, fun h => (nomatch h), by omega⟩
    have hi' : i < zs.length := by omega
    refine hsz _ ?_
    dsimp only
    rw [List.getD_eq_getElem?_getD, List.getElem?_eq_getElem hi']
    exact List.getElem_mem hi'
end Go.Proofs.Qxb6604371a
