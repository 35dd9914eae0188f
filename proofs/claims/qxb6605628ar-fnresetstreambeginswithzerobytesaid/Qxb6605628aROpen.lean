import Derived.Test.Qxb6605628aRRows
import Derived.Test.Qxb6605628aRA6
import Derived.WalkKit
import Derived.ProofKit
import Derived.OpenShut
import Derived.ShutString
import Derived.ChangeOld
import Derived.Below
import Derived.Deep.Slices
namespace Go.Proofs.Qxb6605628aR
open Go.ChangeShapes Go.WideShapes Go.ChangeAt Go.RowKit

theorem own : ownKnob Try.prog.godebug = none := by kernel_rfl
theorem laidOut : laidOutB Try.prog = true := by kernel_rfl
theorem Try.cells5 : Try.prog.cellsOf 5 = 1 := by kernel_rfl
theorem Try.cells55 : Try.prog.cellsOf 55 = 2 := by kernel_rfl
theorem Try.cells35 : Try.prog.cellsOf 35 = 1 := by kernel_rfl
theorem Try.cells22 : Try.prog.cellsOf 22 = 1 := by kernel_rfl

theorem holds_of_cells {w : World} {a : Addr} {n m : Nat} {f : Nat → Value} (hn : n ≤ m) (h : ∀ i, i < m → w.cell? (a.add i) = some (f i)) : Holds w (some a) n f := by
  intro i hi
  have hc := h i (by omega)
  obtain ⟨b, off, spot⟩ := a
  have hs : spot = none := by simpa [Addr.add] using World.cell?_spot (h 0 (by omega))
  subst hs
  exact ⟨b, off, rfl, by rw [← add_at]; exact hc⟩

theorem open_bytes_in {H : Type} {enc : TypeId × Value → H} {W : World} {a : Option Addr} {n c : Nat} {d : DataW H} {p : List MemPlace}
    (h : DataW.Trod enc Try.prog W 0 (fun _ => true) true 25 (.slice a n c) d p) : ∃ f : Nat → Int, Holds W a n (fun i => .int .u8 (f i)) ∧ (a = none → n = 0) ∧ n ≤ maxLen := by
  obtain ⟨fuel, hf⟩ := h
  rcases open_ints Try.underlying25 Try.underlying5 Try.cells5 hf with ⟨hcs, _⟩ | ⟨x, l, c', zs, hcs, _, hl, hm, hz, _, hcell, hsz⟩
  · simp [Value.cells] at hcs
    obtain ⟨rfl, rfl, rfl⟩ := hcs
    exact ⟨fun _ => 0, fun i hi => absurd hi (Nat.not_lt_zero _), fun _ => rfl, Nat.zero_le _⟩
  · simp [Value.cells] at hcs
    obtain ⟨rfl, rfl, rfl⟩ := hcs
    simp at hz
    exact ⟨fun i => zs.getD i 0, holds_of_cells (m := zs.length) (by omega) hcell, fun h => (nomatch h), by omega⟩

theorem open_bits_in {H : Type} {enc : TypeId × Value → H} {W : World} {a : Option Addr} {n c : Nat} {d : DataW H} {p : List MemPlace}
    (h : DataW.Trod enc Try.prog W 0 (fun _ => true) true 52 (.slice a n c) d p) : ∃ P Q, Bits W a n P Q ∧ n ≤ maxLen := by
  obtain ⟨fuel, hf⟩ := h
  rcases DataW.trod_slice Try.underlying52 hf with ⟨hcs, _⟩ | ⟨x, l, c', elems, rest, m, _, hcs, _, hb, hl, hm, hlen, hel, _, _⟩
  · simp [Value.cells] at hcs
    obtain ⟨rfl, rfl, rfl⟩ := hcs
    exact ⟨fun _ => 0, fun _ => 0, fun i hi => absurd hi (Nat.not_lt_zero _), Nat.zero_le _⟩
  · simp [Value.cells] at hcs
    obtain ⟨rfl, rfl, rfl⟩ := hcs
    have each : ∀ i, i < n → ∃ pq : Int × Int, W.cell? (x.add (i * 2)) = some (.int .u16 pq.1) ∧ W.cell? (x.add (i * 2 + 1)) = some (.int .u32 pq.2) := by
      intro i hi
      have h1 := hel i hi
      rw [List.getElem?_eq_getElem (by omega), Try.cells55, Option.bind_eq_some_iff] at h1
      obtain ⟨cs, hcs, hy⟩ := h1
      obtain ⟨y0, y1, k, _, hcl, hy0, hy1⟩ := trod_struct2 Try.underlying55 hy
      rw [Try.cells55] at hcl
      match cs, hcl with
      | [v0, v1], _ =>
        simp only [Try.cells35, Try.cells22] at hy0 hy1
        obtain ⟨p, e0, _, _⟩ := DataW.trod_int Try.underlying35 hy0
        obtain ⟨q, e1, _, _⟩ := DataW.trod_int Try.underlying22 hy1
        simp at e0 e1
        subst e0 e1
        have hcc := World.cells?_some hcs
        refine ⟨(p, q), ?_, ?_⟩
        · have := hcc.2.2 0 (by omega)
          rw [Deep.add_add] at this
          simpa using this
        · have := hcc.2.2 1 (by omega)
          rw [Deep.add_add] at this
          simpa using this
    obtain ⟨f, hfn⟩ := Deep.choose_lt each
    refine ⟨fun i => (f i).1, fun i => (f i).2, fun i hi => ?_, by omega⟩
    obtain ⟨h1, h2⟩ := hfn i hi
    obtain ⟨b, off, spot⟩ := x
    have hs : spot = none := by
      have h0 := (hfn 0 (by omega)).1
      simpa [Addr.add] using World.cell?_spot h0
    subst hs
    refine ⟨b, off, rfl, ?_, ?_⟩
    · rw [← add_at]; exact h1
    · rw [Nat.add_assoc, ← add_at]; exact h2
end Go.Proofs.Qxb6605628aR
