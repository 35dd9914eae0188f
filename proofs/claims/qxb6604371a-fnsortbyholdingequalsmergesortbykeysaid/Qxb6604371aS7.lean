import Derived.Test.Qxb6604371aS5
import Derived.Test.Qxb6604371aA2
import Derived.Test.Qxb6604371aQt
namespace Go.Proofs.Qxb6604371a
open Go.RowKit

theorem Try.info54 : (Try.prog.info? 54).map (fun i => (i.zero, i.size, i.bytes)) = some (some (.agg #[.string ⟨#[]⟩, .string ⟨#[]⟩, .string ⟨#[]⟩, .int .i32 0, .int .i32 0, .pointer none, .int .i32 0]), 7, 72) := by kernel_rfl

/-- The cells of 'n' lots as 'make' lays them. -/
def freshLots (n : Nat) : Array Value := madeCells #[.string ⟨#[]⟩, .string ⟨#[]⟩, .string ⟨#[]⟩, .int .i32 0, .int .i32 0, .pointer none, .int .i32 0] (n * 7)
theorem size_freshLots (n : Nat) : (freshLots n).size = n * 7 := size_madeCells _ _

theorem make41 (n : Nat) (hn : n ≤ 65536) (W : World) : (Instr.makeSlice 41 (.int .i64 n) (.int .i64 n)).run Try.prog W = .ok (.slice (some ⟨W.heap.size, 0, none⟩) n n) (W.alloc (.cells (freshLots n) 54)) := by
  obtain ⟨i0, hi, hz0, hz1, hz2⟩ := info_parts Try.info54
  have := run_make (P := Try.prog) W 41 54 i0 (.agg #[.string ⟨#[]⟩, .string ⟨#[]⟩, .string ⟨#[]⟩, .int .i32 0, .int .i32 0, .pointer none, .int .i32 0]) Try.underlying41 hi hz0 .i64 .i64 n n (by omega) (by omega) (by rw [hz2]; omega) (by omega)
  rw [this, hz1]; simp [Value.cells, freshLots]

/-- The row of the lots 'g 0', 'g 1' .. -/
def rowOf (g : Nat → Lot) (n : Nat) : Array Lot := ((List.range n).map g).toArray
theorem size_rowOf (g : Nat → Lot) (n : Nat) : (rowOf g n).size = n := by simp [rowOf]
theorem get_rowOf (g : Nat → Lot) (n i : Nat) (h : i < n) : (rowOf g n)[i]! = g i := by
  rw [getElem!_pos _ i (by rw [size_rowOf]; exact h)]; simp [rowOf]

/-- A lot, stored cell by cell. -/
def put7 (w : World) (B o : Nat) (x : Lot) : World :=
  ((((((w.setCell ⟨B, o, none⟩ (.string x.1)).setCell ⟨B, o + 1, none⟩ (.string x.2.1)).setCell ⟨B, o + 2, none⟩ (.string x.2.2.1)).setCell ⟨B, o + 3, none⟩ (.int .i32 x.2.2.2)).setCell ⟨B, o + 4, none⟩ (.int .i32 0)).setCell ⟨B, o + 5, none⟩ (.pointer none)).setCell ⟨B, o + 6, none⟩ (.int .i32 0)
/-- .. in the block's array. -/
def arr7 (arr : Array Value) (o : Nat) (x : Lot) : Array Value :=
  ((((((arr.setIfInBounds o (.string x.1)).setIfInBounds (o + 1) (.string x.2.1)).setIfInBounds (o + 2) (.string x.2.2.1)).setIfInBounds (o + 3) (.int .i32 x.2.2.2)).setIfInBounds (o + 4) (.int .i32 0)).setIfInBounds (o + 5) (.pointer none)).setIfInBounds (o + 6) (.int .i32 0)

theorem put7_row {w : World} {B : Nat} {t : TypeId} {arr : Array Value} (h : Row w B t arr) (o : Nat) (x : Lot) : Row (put7 w B o x) B t (arr7 arr o x) :=
  ((((((h.set _ _).set _ _).set _ _).set _ _).set _ _).set _ _).set _ _
theorem put7_below {w w' : World} {B C : Nat} (h : Below C w w') (hC : C ≤ B) (o : Nat) (x : Lot) : Below C w (put7 w' B o x) :=
  ((((((h.setCell hC _).setCell hC _).setCell hC _).setCell hC _).setCell hC _).setCell hC _).setCell hC _
theorem put7_size (w : World) (B o : Nat) (x : Lot) : (put7 w B o x).heap.size = w.heap.size := by unfold put7; simp only [size_setCell]
theorem arr7_size (arr : Array Value) (o : Nat) (x : Lot) : (arr7 arr o x).size = arr.size := by simp [arr7]

/-- The first 'k' lots lie in the array. -/
def LotsIn (arr : Array Value) (k : Nat) (g : Nat → Lot) : Prop := ∀ j, j < k → ∀ c, c < 7 → arr[j * 7 + c]? = (encLot (g j))[c]?

theorem lots_step {arr : Array Value} {n k : Nat} {g : Nat → Lot} (hs : arr.size = n * 7) (hk : k < n) (hf : LotsIn arr k g) : LotsIn (arr7 arr (k * 7) (g k)) (k + 1) g := by
  intro j hj c hc
  have hb : k * 7 + 6 < arr.size := by omega
  by_cases e : j = k
  · subst e
    have b0 : j * 7 < arr.size := by omega
    have b1 : j * 7 + 1 < arr.size := by omega
    have b2 : j * 7 + 2 < arr.size := by omega
    have b3 : j * 7 + 3 < arr.size := by omega
    have b4 : j * 7 + 4 < arr.size := by omega
    have b5 : j * 7 + 5 < arr.size := by omega
    obtain rfl | rfl | rfl | rfl | rfl | rfl | rfl : c = 0 ∨ c = 1 ∨ c = 2 ∨ c = 3 ∨ c = 4 ∨ c = 5 ∨ c = 6 := by omega
    all_goals simp [arr7, encLot, hb, b0, b1, b2, b3, b4, b5]
  · unfold arr7
    simp only [Array.getElem?_setIfInBounds]
    rw [if_neg (by omega), if_neg (by omega), if_neg (by omega), if_neg (by omega), if_neg (by omega), if_neg (by omega), if_neg (by omega)]
    exact hf j (by omega) c hc

theorem LotsIn.holds {w : World} {B n : Nat} {t : TypeId} {arr : Array Value} {g : Nat → Lot} (h : LotsIn arr n g) (hr : Row w B t arr) : Go.Sort.HoldsK encLot 7 w B 0 (rowOf g n) := by
  intro j hj
  rw [Go.Sort.size_flatK, size_rowOf] at hj
  have h1 : j / 7 < n := by omega
  have h2 : j % 7 < 7 := Nat.mod_lt _ (by omega)
  refine ⟨?_, hr.free _⟩
  rw [Nat.zero_add, hr.cell, Go.Sort.get_flatK _ _ _ _ (by rw [size_rowOf]; exact hj), get_rowOf _ _ _ h1]
  have := h (j / 7) h1 (j % 7) h2
  rw [show j / 7 * 7 + j % 7 = j by omega] at this
  rw [this]
  rw [getElem!_pos _ _ (by exact h2), List.getElem?_eq_getElem (by exact h2)]
  rfl

theorem newLot' (a b c : ByteArray) (d : Int) (w : World) :
    Calls Try.prog 22 #[.string a, .string b, .string c, .int .i32 d] w fun e w' => e = .returned (.agg #[.string a, .string b, .string c, .int .i32 d, .int .i32 0, .pointer none, .int .i32 0]) ∧ w' = w.alloc (.cells #[.string a, .string b, .string c, .int .i32 d, .int .i32 0, .pointer none, .int .i32 0] 54) :=
  newLot a b c d w

/-- What the building loop's round keeps. -/
def LotsRel (w wr : World) (B n k : Nat) (g : Nat → Lot) : Prop :=
  ∃ arr, Row wr B 54 arr ∧ arr.size = n * 7 ∧ LotsIn arr k g ∧ Below w.heap.size w wr

theorem stray_below {w wr : World} (h : Below w.heap.size w wr) (s : Far) : Below w.heap.size w (stray wr s) :=
  h.trans ⟨rfl, rfl, rfl, stray_size _ _, fun _ hk => stray_block _ _ (Nat.lt_of_lt_of_le hk h.size)⟩

theorem LotsRel.step {w wr : World} {B n k : Nat} {g : Nat → Lot} (hr : LotsRel w wr B n k g) (hB : w.heap.size ≤ B) (hk : k < n) (s : Far) :
    LotsRel w (put7 (stray wr s) B (k * 7) (g k)) B n (k + 1) g := by
  obtain ⟨arr, hrow, hsz, hf, hbel⟩ := hr
  have hrow' : Row (stray wr s) B 54 arr := (stray_block _ _ hrow.lt).trans hrow
  exact ⟨_, put7_row hrow' _ _, by rw [arr7_size, hsz], lots_step hsz hk hf, put7_below (stray_below hbel s) hB _ _⟩

theorem newLotStray (a b c : ByteArray) (d : Int) (w : World) (s : Far) :
    Calls Try.prog 22 #[.string a, .string b, .string c, .int .i32 d] (stray w s) fun e w' => e = .returned (.agg #[.string a, .string b, .string c, .int .i32 d, .int .i32 0, .pointer none, .int .i32 0]) ∧ ∃ s', w' = stray w s' :=
  (newLot' a b c d _).mono fun _ _ ⟨he, hw⟩ => ⟨he, _, hw.trans (stray_alloc _ _ _)⟩

set_option maxHeartbeats 2000000 in
theorem buildLots (a1 a2 a3 a4 : Option Addr) (n c1 c2 c3 c4 : Nat) (s1 s2 s3 : Nat → ByteArray) (f : Nat → Int) (w : World) (hn : n ≤ 65536)
    (h1 : Holds w a1 n fun i => .string (s1 i)) (h2 : Holds w a2 n fun i => .string (s2 i)) (h3 : Holds w a3 n fun i => .string (s3 i)) (h4 : Holds w a4 n fun i => .int .i32 (f i)) :
    Calls Try.prog 17 #[.slice a1 n c1, .slice a2 n c2, .slice a3 n c3, .slice a4 n c4] w fun e w' =>
      e = .returned (.slice (some ⟨w.heap.size, 0, none⟩) n n) ∧ Go.Sort.HoldsK encLot 7 w' w.heap.size 0 (rowOf (fun i => (s1 i, s2 i, s3 i, f i)) n) ∧ Below w.heap.size w w' ∧ w.heap.size < w'.heap.size := by
  have hmk := make41 n hn
  go_enter Try.func17, Try.ntmps17
  go_wp2_with fail
  clear hmk
  go_loopw [10] (fun i wr => ∃ k : Nat, k ≤ n ∧ i = .int .i64 k ∧ LotsRel w wr w.heap.size n k (fun i => (s1 i, s2 i, s3 i, f i))) (fun i _ => n - (intOf i).toNat)
  case atStart => exact ⟨0, Nat.zero_le _, rfl, _, Row.new _ _ _, size_freshLots _, fun j hj => absurd hj (Nat.not_lt_zero _), (Below.refl _ _).alloc (Nat.le_refl _) _⟩
  case round =>
    obtain ⟨k, hk, rfl, hR⟩ := hrel
    obtain ⟨arr, hrow, hsz, hf, hbel⟩ := id hR
    by_cases hlt : k < n
    · have hb : k * 7 + 6 < arr.size := by omega
      have hB := hrow.lt
      obtain ⟨v0, w0⟩ : ∃ v, wr.cell? ⟨w.heap.size, k * 7, none⟩ = some v := ⟨arr[k * 7], by rw [hrow.cell]; simp⟩
      obtain ⟨v1, w1⟩ : ∃ v, wr.cell? ⟨w.heap.size, k * 7 + 1, none⟩ = some v := ⟨arr[k * 7 + 1], by rw [hrow.cell]; simp⟩
      obtain ⟨v2, w2⟩ : ∃ v, wr.cell? ⟨w.heap.size, k * 7 + 2, none⟩ = some v := ⟨arr[k * 7 + 2], by rw [hrow.cell]; simp⟩
      obtain ⟨v3, w3⟩ : ∃ v, wr.cell? ⟨w.heap.size, k * 7 + 3, none⟩ = some v := ⟨arr[k * 7 + 3], by rw [hrow.cell]; simp⟩
      obtain ⟨v4, w4⟩ : ∃ v, wr.cell? ⟨w.heap.size, k * 7 + 4, none⟩ = some v := ⟨arr[k * 7 + 4], by rw [hrow.cell]; simp⟩
      obtain ⟨v5, w5⟩ : ∃ v, wr.cell? ⟨w.heap.size, k * 7 + 5, none⟩ = some v := ⟨arr[k * 7 + 5], by rw [hrow.cell]; simp⟩
      obtain ⟨v6, w6⟩ : ∃ v, wr.cell? ⟨w.heap.size, k * 7 + 6, none⟩ = some v := ⟨arr[k * 7 + 6], by rw [hrow.cell]; simp⟩
      have f0 := hrow.free (k * 7)
      have f1 := hrow.free (k * 7 + 1)
      have f2 := hrow.free (k * 7 + 2)
      have f3 := hrow.free (k * 7 + 3)
      have f4 := hrow.free (k * 7 + 4)
      have f5 := hrow.free (k * 7 + 5)
      have f6 := hrow.free (k * 7 + 6)
      have S : Hid (∀ s, LotsRel w (put7 (stray wr s) w.heap.size (k * 7) (s1 k, s2 k, s3 k, f k)) w.heap.size n (k + 1) (fun i => (s1 i, s2 i, s3 i, f i))) := fun o => hR.step (Nat.le_refl _) hlt o
      obtain ⟨b1, o1, e1, k1⟩ := (h1.below hbel) k hlt
      obtain ⟨b2, o2, e2, k2⟩ := (h2.below hbel) k hlt
      obtain ⟨b3, o3, e3, k3⟩ := (h3.below hbel) k hlt
      obtain ⟨b4, o4, e4, k4⟩ := (h4.below hbel) k hlt
      have x1 := stray_cell k1 (lt_of_cell k1)
      have x2 := stray_cell k2 (lt_of_cell k2)
      have x3 := stray_cell k3 (lt_of_cell k3)
      have x4 := stray_cell k4 (lt_of_cell k4)
      have y0 := stray_cell w0 hB
      have y1 := stray_cell w1 hB
      have y2 := stray_cell w2 hB
      have y3 := stray_cell w3 hB
      have y4 := stray_cell w4 hB
      have y5 := stray_cell w5 hB
      have y6 := stray_cell w6 hB
      have z0 := stray_free f0 hB
      have z1 := stray_free f1 hB
      have z2 := stray_free f2 hB
      have z3 := stray_free f3 hB
      have z4 := stray_free f4 hB
      have z5 := stray_free f5 hB
      have z6 := stray_free f6 hB
      subst e1 e2 e3 e4
      clear h1 h2 h3 h4 hrow hsz hf hbel hR hb k1 k2 k3 k4 w0 w1 w2 w3 w4 w5 w6 f0 f1 f2 f3 f4 f5 f6
      go_wp2_with fail
      refine region_quiet_store 20 (by kernel_rfl) (by kernel_rfl) ?_
      simp only [List.take_succ_cons, List.take_zero, List.drop_succ_cons, List.drop_zero]
      repeat (go_big_quiet_step (first | (go_at_call 22; exact newLotStray _ _ _ _ _ _)))
      refine wpQuiet_nil ?_
      rintro _ ⟨s, rfl⟩
      go_wp2_with fail
      go_roundw
      case rel => exact ⟨k + 1, by omega, by go_num, S.out _⟩
      case measure => simp [intOf]; omega
    · obtain rfl : k = n := by omega
      have R : Hid (Go.Sort.HoldsK encLot 7 wr w.heap.size 0 (rowOf (fun i => (s1 i, s2 i, s3 i, f i)) k)) := hf.holds hrow
      have Z : Hid (w.heap.size < wr.heap.size) := hrow.lt
      clear h1 h2 h3 h4 hrow hf hR hsz
      go_wp2_with fail
      go_ret
      exact ⟨rfl, R.out, hbel, Z.out⟩
end Go.Proofs.Qxb6604371a
