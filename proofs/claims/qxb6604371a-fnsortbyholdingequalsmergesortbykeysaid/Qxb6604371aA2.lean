import Derived.Test.Qxb6604371aMem
import Derived.Test.Qxb6604371aProg
import Derived.Lib.SliceRun
namespace Go.Proofs.Qxb6604371a
open Go.RowKit

theorem Try.info21 : (Try.prog.info? 21).map (fun i => (i.zero, i.size, i.bytes)) = some (some (.int .i32 0), 1, 4) := by kernel_rfl
theorem Try.info9 : (Try.prog.info? 9).map (fun i => (i.zero, i.size, i.bytes)) = some (some (.string ByteArray.empty), 1, 16) := by kernel_rfl

/-- The call handed back a slice of 'n' places that hold 'f 0', 'f 1' .. -/
def GotSlice (e : Ending) (w' : World) (n : Nat) (f : Nat → Value) : Prop := ∃ a' c', e = .returned (.slice a' n c') ∧ (a' = none → n = 0) ∧ Holds w' a' n f

theorem make23 (n : Nat) (hn : n ≤ 65536) (W : World) : (Instr.makeSlice 23 (.int .i64 n) (.int .i64 n)).run Try.prog W = .ok (.slice (some ⟨W.heap.size, 0, none⟩) n n) (W.alloc (.cells (madeCells #[.int .i32 0] n) 21)) := by
  obtain ⟨i0, hi, hz0, hz1, hz2⟩ := info_parts Try.info21
  have := run_make (P := Try.prog) W 23 21 i0 (.int .i32 0) Try.underlying23 hi hz0 .i64 .i64 n n (by omega) (by omega) (by rw [hz2]; omega) (by omega)
  rw [this, hz1]; simp [Value.cells]
theorem make22 (n : Nat) (hn : n ≤ 65536) (W : World) : (Instr.makeSlice 22 (.int .i64 n) (.int .i64 n)).run Try.prog W = .ok (.slice (some ⟨W.heap.size, 0, none⟩) n n) (W.alloc (.cells (madeCells #[.string ByteArray.empty] n) 9)) := by
  obtain ⟨i0, hi, hz0, hz1, hz2⟩ := info_parts Try.info9
  have := run_make (P := Try.prog) W 22 9 i0 (.string ByteArray.empty) Try.underlying22 hi hz0 .i64 .i64 n n (by omega) (by omega) (by rw [hz2]; omega) (by omega)
  rw [this, hz1]; simp [Value.cells]

set_option maxHeartbeats 400000 in
theorem cloneInts (a : Option Addr) (n c : Nat) (f : Nat → Int) (w : World) (hn : n ≤ 65536) (hs : Holds w a n fun i => .int .i32 (f i)) (hnil : a = none → n = 0) :
    Calls Try.prog 10 #[.slice a n c] w fun e w' => GotSlice e w' n (fun i => .int .i32 (f i)) ∧ Below w.heap.size w w' := by
  have q23 : ∀ (w : World) (a : Option Addr) (n c n' c' : Nat), (binOp .eql 23 (.slice a n c) (.slice none n' c')).run Try.prog w = .ok (.bool a.isNone) w := fun w a n c n' c' => Lib.run_eql_slice_nil w _ _ a n c n' c' Try.underlying23
  have hmk := make23 n hn
  by_cases ha : a = none
  · subst ha
    obtain rfl := hnil rfl
    clear hs hnil hmk
    go_enter Try.func10, Try.ntmps10
    go_wp2
    go_ret
    exact ⟨⟨none, 0, rfl, fun _ => rfl, fun i hi => absurd hi (Nat.not_lt_zero _)⟩, Below.refl _ _⟩
  · have hi : a.isNone = false := by cases a <;> simp_all
    clear ha hnil
    go_enter Try.func10, Try.ntmps10
    go_wp2
    clear q23 hmk
    go_loopw [4] (fun i wr => ∃ k : Nat, k ≤ n ∧ i = .int .i64 k ∧ ∃ arr, Row wr w.heap.size 21 arr ∧ arr.size = n ∧ (∀ j, j < k → arr[j]? = some (.int .i32 (f j))) ∧ Below w.heap.size w wr ∧ wr.heap.size = w.heap.size + 1) (fun i _ => n - (intOf i).toNat)
    case atStart => exact ⟨0, Nat.zero_le _, rfl, _, Row.new _ _ _, size_madeCells _ _, fun j hj => absurd hj (Nat.not_lt_zero _), (Below.refl _ _).alloc (Nat.le_refl _) _, by simp⟩
    case round =>
      obtain ⟨k, hk, rfl, arr, hrow, hsz, hf, hbel, hz⟩ := hrel
      by_cases hlt : k < n
      · obtain ⟨b, off, ha, hc⟩ := hs k hlt
        have hcw : wr.cell? ⟨b, off + k, none⟩ = some (.int .i32 (f k)) := (hbel.cell (p := ⟨b, off + k, none⟩) (lt_of_cell hc)).trans hc
        obtain ⟨v0, hcd⟩ : ∃ v, wr.cell? ⟨w.heap.size, k, none⟩ = some v := ⟨arr[k], by rw [hrow.cell]; simp⟩
        have hfd := hrow.free k
        have R1 := Hid.out (p := Row (wr.setCell ⟨w.heap.size, k, none⟩ (.int .i32 (f k))) w.heap.size 21 _) (hrow.set k (.int .i32 (f k)))
        have R : Hid (∃ arr, Row (wr.setCell ⟨w.heap.size, k, none⟩ (.int .i32 (f k))) w.heap.size 21 arr ∧ arr.size = n ∧ (∀ j, j < k + 1 → arr[j]? = some (.int .i32 (f j))) ∧ Below w.heap.size w (wr.setCell ⟨w.heap.size, k, none⟩ (.int .i32 (f k))) ∧ (wr.setCell ⟨w.heap.size, k, none⟩ (.int .i32 (f k))).heap.size = w.heap.size + 1) :=
          ⟨_, R1, by simp [hsz], set_step hsz hlt hf, hbel.setCell (Nat.le_refl _) _, by rw [size_setCell]; exact hz⟩
        subst ha
        clear hs hrow hsz hf hbel hz R1 hi hc
        go_wp2
        go_roundw
        case rel => exact ⟨k + 1, by omega, by go_num, R.out⟩
        case measure => simp [intOf]; omega
      · have R : Hid ((some (⟨w.heap.size, 0, none⟩ : Addr) = none → n = 0) ∧ Holds wr (some ⟨w.heap.size, 0, none⟩) n fun i => .int .i32 (f i)) := ⟨fun h => (nomatch h), Holds.row hrow (fun j hj => hf j (by omega))⟩
        clear hs hrow hf hi
        go_wp2
        go_ret
        exact ⟨⟨_, _, rfl, R.out⟩, hbel⟩

set_option maxHeartbeats 400000 in
theorem cloneStrs (a : Option Addr) (n c : Nat) (f : Nat → ByteArray) (w : World) (hn : n ≤ 65536) (hs : Holds w a n fun i => .string (f i)) (hnil : a = none → n = 0) :
    Calls Try.prog 9 #[.slice a n c] w fun e w' => GotSlice e w' n (fun i => .string (f i)) ∧ Below w.heap.size w w' := by
  have q22 : ∀ (w : World) (a : Option Addr) (n c n' c' : Nat), (binOp .eql 22 (.slice a n c) (.slice none n' c')).run Try.prog w = .ok (.bool a.isNone) w := fun w a n c n' c' => Lib.run_eql_slice_nil w _ _ a n c n' c' Try.underlying22
  have hmk := make22 n hn
  by_cases ha : a = none
  · subst ha
    obtain rfl := hnil rfl
    clear hs hnil hmk
    go_enter Try.func9, Try.ntmps9
    go_wp2
    go_ret
    exact ⟨⟨none, 0, rfl, fun _ => rfl, fun i hi => absurd hi (Nat.not_lt_zero _)⟩, Below.refl _ _⟩
  · have hi : a.isNone = false := by cases a <;> simp_all
    clear ha hnil
    go_enter Try.func9, Try.ntmps9
    go_wp2
    clear q22 hmk
    go_loopw [4] (fun i wr => ∃ k : Nat, k ≤ n ∧ i = .int .i64 k ∧ ∃ arr, Row wr w.heap.size 9 arr ∧ arr.size = n ∧ (∀ j, j < k → arr[j]? = some (.string (f j))) ∧ Below w.heap.size w wr ∧ wr.heap.size = w.heap.size + 1) (fun i _ => n - (intOf i).toNat)
    case atStart => exact ⟨0, Nat.zero_le _, rfl, _, Row.new _ _ _, size_madeCells _ _, fun j hj => absurd hj (Nat.not_lt_zero _), (Below.refl _ _).alloc (Nat.le_refl _) _, by simp⟩
    case round =>
      obtain ⟨k, hk, rfl, arr, hrow, hsz, hf, hbel, hz⟩ := hrel
      by_cases hlt : k < n
      · obtain ⟨b, off, ha, hc⟩ := hs k hlt
        have hcw : wr.cell? ⟨b, off + k, none⟩ = some (.string (f k)) := (hbel.cell (p := ⟨b, off + k, none⟩) (lt_of_cell hc)).trans hc
        obtain ⟨v0, hcd⟩ : ∃ v, wr.cell? ⟨w.heap.size, k, none⟩ = some v := ⟨arr[k], by rw [hrow.cell]; simp⟩
        have hfd := hrow.free k
        have R1 := Hid.out (p := Row (wr.setCell ⟨w.heap.size, k, none⟩ (.string (f k))) w.heap.size 9 _) (hrow.set k (.string (f k)))
        have R : Hid (∃ arr, Row (wr.setCell ⟨w.heap.size, k, none⟩ (.string (f k))) w.heap.size 9 arr ∧ arr.size = n ∧ (∀ j, j < k + 1 → arr[j]? = some (.string (f j))) ∧ Below w.heap.size w (wr.setCell ⟨w.heap.size, k, none⟩ (.string (f k))) ∧ (wr.setCell ⟨w.heap.size, k, none⟩ (.string (f k))).heap.size = w.heap.size + 1) :=
          ⟨_, R1, by simp [hsz], set_step hsz hlt hf, hbel.setCell (Nat.le_refl _) _, by rw [size_setCell]; exact hz⟩
        subst ha
        clear hs hrow hsz hf hbel hz R1 hi hc
        go_wp2
        go_roundw
        case rel => exact ⟨k + 1, by omega, by go_num, R.out⟩
        case measure => simp [intOf]; omega
      · have R : Hid ((some (⟨w.heap.size, 0, none⟩ : Addr) = none → n = 0) ∧ Holds wr (some ⟨w.heap.size, 0, none⟩) n fun i => .string (f i)) := ⟨fun h => (nomatch h), Holds.row hrow (fun j hj => hf j (by omega))⟩
        clear hs hrow hf hi
        go_wp2
        go_ret
        exact ⟨⟨_, _, rfl, R.out⟩, hbel⟩
end Go.Proofs.Qxb6604371a
