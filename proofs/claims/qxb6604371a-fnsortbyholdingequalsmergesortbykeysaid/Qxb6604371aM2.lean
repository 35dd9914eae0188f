import Derived.Test.Qxb6604371aM1
import Derived.Lib.SliceRun
namespace Go.Proofs.Qxb6604371a
open Go.RowKit

theorem Try.info45 : (Try.prog.info? 45).map (fun i => (i.zero, i.size, i.bytes)) = some (some (.agg #[.string ⟨#[]⟩, .string ⟨#[]⟩, .string ⟨#[]⟩, .int .i32 0]), 4, 56) := by kernel_rfl

/-- The cells of 'n' keys as 'make' lays them. -/
def freshKeys (n : Nat) : Array Value := madeCells #[.string ⟨#[]⟩, .string ⟨#[]⟩, .string ⟨#[]⟩, .int .i32 0] (n * 4)
theorem size_freshKeys (n : Nat) : (freshKeys n).size = n * 4 := size_madeCells _ _

theorem make43 (n : Nat) (hn : n ≤ 65536) (W : World) : (Instr.makeSlice 43 (.int .i64 n) (.int .i64 n)).run Try.prog W = .ok (.slice (some ⟨W.heap.size, 0, none⟩) n n) (W.alloc (.cells (freshKeys n) 45)) := by
  obtain ⟨i0, hi, hz0, hz1, hz2⟩ := info_parts Try.info45
  have := run_make (P := Try.prog) W 43 45 i0 (.agg #[.string ⟨#[]⟩, .string ⟨#[]⟩, .string ⟨#[]⟩, .int .i32 0]) Try.underlying43 hi hz0 .i64 .i64 n n (by omega) (by omega) (by rw [hz2]; omega) (by omega)
  rw [this, hz1]; simp [Value.cells, freshKeys]
theorem make43c (n : Nat) (hn : n ≤ 65536) (W : World) : (Instr.makeSlice 43 (.int .i64 0) (.int .i64 n)).run Try.prog W = .ok (.slice (some ⟨W.heap.size, 0, none⟩) 0 n) (W.alloc (.cells (freshKeys n) 45)) := by
  obtain ⟨i0, hi, hz0, hz1, hz2⟩ := info_parts Try.info45
  have := run_make (P := Try.prog) W 43 45 i0 (.agg #[.string ⟨#[]⟩, .string ⟨#[]⟩, .string ⟨#[]⟩, .int .i32 0]) Try.underlying43 hi hz0 .i64 .i64 0 n (by omega) (by omega) (by rw [hz2]; omega) (by omega)
  rw [this, hz1]; simp [Value.cells, freshKeys]

theorem fresh0 : freshKeys 0 = #[] := by kernel_rfl
theorem fresh1 : freshKeys 1 = #[.string ⟨#[]⟩, .string ⟨#[]⟩, .string ⟨#[]⟩, .int .i32 0] := by kernel_rfl

theorem copy0 (W : World) (a b : Addr) (c d : Nat) : (Builtin.copy_ #[43, 43] 3 #[.slice (some a) 0 c, .slice (some b) 0 d]).run Try.prog W = .ok (.int .i64 0) W := by
  obtain ⟨i0, hi, hz0, hz1, hz2⟩ := info_parts Try.info45
  simp [Builtin.copy_, run_underlying Try.underlying43, sizeOf, typeInfo, hi, Builtin.lenOf, Builtin.firstCells, loadCells, loadCellsFrom, storeCells, goInt, Result.andThen]

theorem copy1 (W : World) (G B off c d : Nat) (v0 v1 v2 v3 u0 u1 u2 u3 : Value) (p0 : W.cell? ⟨B, off, none⟩ = some v0) (p1 : W.cell? ⟨B, off + 1, none⟩ = some v1) (p2 : W.cell? ⟨B, off + 2, none⟩ = some v2) (p3 : W.cell? ⟨B, off + 3, none⟩ = some v3)
    (hr : Row W G 45 #[u0, u1, u2, u3]) (ho : ∀ v ∈ [v0, v1, v2, v3], v.oneCell' = true) :
    (Builtin.copy_ #[43, 43] 3 #[.slice (some ⟨G, 0, none⟩) 1 c, .slice (some ⟨B, off, none⟩) 1 d]).run Try.prog W = .ok (.int .i64 1) (W.setCells G 0 [v0, v1, v2, v3]) := by
  obtain ⟨i0, hi, hz0, hz1, hz2⟩ := info_parts Try.info45
  have hl := run_loadCells_list (P := Try.prog) W ⟨B, off, none⟩ [v0, v1, v2, v3] (by
    intro j v hv
    rw [Addr.add_lit]
    match j, hv with
    | 0, hv => cases hv; exact p0
    | 1, hv => cases hv; exact p1
    | 2, hv => cases hv; exact p2
    | 3, hv => cases hv; exact p3)
  have hst := run_storeCells_cells (P := Try.prog) G 0 [v0, v1, v2, v3] 0 W (by
    intro j hj
    rw [hr.cell]
    simp at hj ⊢
    omega) (fun j _ => hr.free _) ho
  simp at hl hst
  simp [Builtin.copy_, run_underlying Try.underlying43, sizeOf, typeInfo, hi, hz1, Builtin.lenOf, Builtin.firstCells, goInt, Result.andThen, hl, hst]

/-- The call handed back a row of its own that holds the keys, ascending. -/
def GotKeys (e : Ending) (w' : World) (base n : Nat) (ks : List Lot) : Prop :=
  ∃ B' c' ys, e = .returned (.slice (some ⟨B', 0, none⟩) n c') ∧ base ≤ B' ∧ B' < w'.heap.size ∧ n ≤ c' ∧ c' ≤ 65536 ∧ KeysAt w' B' 0 ys ∧ ys.Perm ks ∧ Asc ys

set_option maxHeartbeats 1000000 in
set_option maxRecDepth 100000 in
theorem sortBase (n c B off : Nat) (ks : List Lot) (w : World) (hn : n ≤ 1) (hl : ks.length = n) (hk : KeysAt w B off ks) (hB : B < w.heap.size) :
    Calls Try.prog 18 #[.slice (some ⟨B, off, none⟩) n c] w fun e w' => GotKeys e w' w.heap.size n ks ∧ Below w.heap.size w w' := by
  rcases Nat.lt_or_ge n 1 with h | h
  · obtain rfl : n = 0 := by omega
    obtain rfl : ks = [] := List.eq_nil_of_length_eq_zero hl
    have hmk : ∀ W : World, (Instr.makeSlice 43 (.int .i64 0) (.int .i64 0)).run Try.prog W = .ok (.slice (some ⟨W.heap.size, 0, none⟩) 0 0) (W.alloc (.cells #[] 45)) := fun W => by rw [← fresh0]; exact make43 0 (by omega) W
    have hcp := copy0
    clear hk
    go_enter Try.func18, Try.ntmps18
    go_wp2_with fail
    go_ret
    exact ⟨⟨_, _, [], rfl, Nat.le_refl _, by simp, Nat.le_refl _, by omega, fun t x hx => by simp at hx, List.Perm.refl _, List.Pairwise.nil⟩, (Below.refl _ _).alloc (Nat.le_refl _) _⟩
  · obtain rfl : n = 1 := by omega
    obtain ⟨⟨xa, xb, xc, xd⟩, rfl⟩ : ∃ x, ks = [x] := by
      match ks, hl with
      | [x], _ => exact ⟨x, rfl⟩
    obtain ⟨p0, p1, p2, p3⟩ := hk 0 _ rfl
    have hmk : ∀ W : World, (Instr.makeSlice 43 (.int .i64 1) (.int .i64 1)).run Try.prog W = .ok (.slice (some ⟨W.heap.size, 0, none⟩) 1 1) (W.alloc (.cells (freshKeys 1) 45)) := fun W => make43 1 (by omega) W
    simp only [Nat.zero_mul, Nat.add_zero] at p0 p1 p2 p3
    have R0 : Row (w.alloc (.cells (freshKeys 1) 45)) w.heap.size 45 #[.string ⟨#[]⟩, .string ⟨#[]⟩, .string ⟨#[]⟩, .int .i32 0] := by rw [← fresh1]; exact Row.new _ _ _
    have b0 : Below w.heap.size w (w.alloc (.cells (freshKeys 1) 45)) := (Below.refl _ _).alloc (Nat.le_refl _) _
    have hcp := copy1 (w.alloc (.cells (freshKeys 1) 45)) w.heap.size B off 1 c (.string xa) (.string xb) (.string xc) (.int .i32 xd) _ _ _ _ ((b0.cell (by exact hB)).trans p0) ((b0.cell (by exact hB)).trans p1) ((b0.cell (by exact hB)).trans p2) ((b0.cell (by exact hB)).trans p3) R0 (by intro v hv; simp at hv; rcases hv with rfl | rfl | rfl | rfl <;> rfl)
    obtain ⟨W1, hW1⟩ : ∃ W, W = (w.alloc (.cells (freshKeys 1) 45)).setCells w.heap.size 0 [.string xa, .string xb, .string xc, .int .i32 xd] := ⟨_, rfl⟩
    rw [← hW1] at hcp
    have R1 : Hid (Row W1 w.heap.size 45 #[.string xa, .string xb, .string xc, .int .i32 xd] ∧ Below w.heap.size w W1) := by
      constructor
      · rw [hW1]; exact (((R0.set 0 _).set 1 _).set 2 _).set 3 _
      · rw [hW1]; exact (((b0.setCell (Nat.le_refl _) _).setCell (Nat.le_refl _) _).setCell (Nat.le_refl _) _).setCell (Nat.le_refl _) _
    clear hk hW1 R0 b0 p0 p1 p2 p3
    go_enter Try.func18, Try.ntmps18
    go_wp2_with fail
    go_ret
    obtain ⟨r1, b1⟩ := R1.out
    refine ⟨⟨_, _, [(xa, xb, xc, xd)], rfl, Nat.le_refl _, r1.lt, Nat.le_refl _, by omega, fun t x hx => ?_, List.Perm.refl _, List.pairwise_singleton _ _⟩, b1⟩
    match t, hx with
    | 0, hx =>
      cases hx
      exact ⟨by rw [r1.cell]; rfl, by rw [r1.cell]; rfl, by rw [r1.cell]; rfl, by rw [r1.cell]; rfl⟩
end Go.Proofs.Qxb6604371a
