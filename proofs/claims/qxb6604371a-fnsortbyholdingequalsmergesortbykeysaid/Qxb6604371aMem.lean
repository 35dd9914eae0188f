import Derived.WalkKit
import Derived.WalkSpells
namespace Go.Proofs.Qxb6604371a
open Go.RowKit

/-- Block 'B' is a row of cells of type 't', none of them frozen. -/
def Row (w : World) (B : Nat) (t : TypeId) (arr : Array Value) : Prop := w.heap[B]? = some (.cells arr t (0, 0))

theorem Row.cell {w : World} {B : Nat} {t : TypeId} {arr : Array Value} (h : Row w B t arr) (j : Nat) : w.cell? ⟨B, j, none⟩ = arr[j]? := by
  unfold Row at h; simp [World.cell?, h]
theorem Row.free {w : World} {B : Nat} {t : TypeId} {arr : Array Value} (h : Row w B t arr) (j : Nat) : w.frozen? ⟨B, j, none⟩ = false := by
  unfold Row at h; simp [World.frozen?, h]
theorem Row.lt {w : World} {B : Nat} {t : TypeId} {arr : Array Value} (h : Row w B t arr) : B < w.heap.size := lt_of_block h
theorem Row.set {w : World} {B : Nat} {t : TypeId} {arr : Array Value} (h : Row w B t arr) (j : Nat) (v : Value) : Row (w.setCell ⟨B, j, none⟩ v) B t (arr.setIfInBounds j v) := by
  have hlt := h.lt
  have h' : w.heap[B] = .cells arr t (0, 0) := by simpa [Row, Array.getElem?_eq_getElem hlt] using h
  show (w.heap.modify B _)[B]? = _
  rw [Array.getElem?_eq_getElem (by simpa using hlt), Array.getElem_modify_self, h']
  rfl
theorem Row.other {w : World} {B : Nat} {t : TypeId} {arr : Array Value} (h : Row w B t arr) {a : Addr} (hne : B ≠ a.block) (v : Value) : Row (w.setCell a v) B t arr := by
  unfold Row; rw [Below.heap_setCell _ _ _ _ hne]; exact h
theorem Row.drew {w : World} {B : Nat} {t : TypeId} {arr : Array Value} (h : Row w B t arr) : Row w.drew B t arr := h
theorem Row.alloc {w : World} {B : Nat} {t : TypeId} {arr : Array Value} (h : Row w B t arr) (o : Obj) : Row (w.alloc o) B t arr := by
  unfold Row; rw [Below.heap_alloc _ _ _ h.lt]; exact h
theorem Row.new (w : World) (t : TypeId) (arr : Array Value) : Row (w.alloc (.cells arr t)) w.heap.size t arr := by
  show (w.heap.push _)[w.heap.size]? = _
  simp
theorem Row.below {w w' : World} {B C : Nat} {t : TypeId} {arr : Array Value} (h : Row w B t arr) (hb : Below C w w') (hlt : B < C) : Row w' B t arr := by
  unfold Row; rw [hb.block B hlt]; exact h

theorem size_setCell (w : World) (a : Addr) (v : Value) : (w.setCell a v).heap.size = w.heap.size := by simp [World.setCell]

/-- A cell that lies in block 'b' lies in a block that is there. -/
theorem lt_of_cell {w : World} {a : Addr} {v : Value} (h : w.cell? a = some v) : a.block < w.heap.size := by
  rcases Nat.lt_or_ge a.block w.heap.size with h' | h'
  · exact h'
  · simp [World.cell?, Array.getElem?_eq_none h'] at h

/-- The first 'n' places of a slice hold the values 'f 0', 'f 1' .. -/
def Holds (w : World) (a : Option Addr) (n : Nat) (f : Nat → Value) : Prop :=
  ∀ i, i < n → ∃ b off, a = some ⟨b, off, none⟩ ∧ w.cell? ⟨b, off + i, none⟩ = some (f i)

theorem Holds.below {w w' : World} {a : Option Addr} {n : Nat} {f : Nat → Value} (h : Holds w a n f) (hb : Below w.heap.size w w') : Holds w' a n f := by
  intro i hi
  obtain ⟨b, off, ha, hc⟩ := h i hi
  exact ⟨b, off, ha, (hb.cell (p := ⟨b, off + i, none⟩) (lt_of_cell hc)).trans hc⟩

theorem Holds.row {w : World} {B : Nat} {t : TypeId} {arr : Array Value} {n : Nat} {f : Nat → Value} (h : Row w B t arr) (hf : ∀ j, j < n → arr[j]? = some (f j)) : Holds w (some ⟨B, 0, none⟩) n f := by
  intro i hi
  exact ⟨B, 0, rfl, by rw [Nat.zero_add, h.cell]; exact hf i hi⟩

theorem set_step {arr : Array Value} {n k : Nat} {f : Nat → Value} (hs : arr.size = n) (hk : k < n) (hf : ∀ j, j < k → arr[j]? = some (f j)) : ∀ j, j < k + 1 → (arr.setIfInBounds k (f k))[j]? = some (f j) := by
  intro j hj
  rw [Array.getElem?_setIfInBounds]
  by_cases h : k = j
  · subst h; simp [hs, hk]
  · rw [if_neg h]; exact hf j (by omega)
end Go.Proofs.Qxb6604371a
