import Derived.Test.Qxb6604371aS2
import Derived.Test.Qxb6604371aMem
import Derived.Shelf.GgSortFunc.Tiny
namespace Go.Proofs.Qxb6604371a
open Go.RowKit

/-- A lot's seven cells. -/
def encLot (x : Lot) : List Value := [.string x.1, .string x.2.1, .string x.2.2.1, .int .i32 x.2.2.2, .int .i32 0, .pointer none, .int .i32 0]

theorem Try.row41 : (Try.prog.info? 41).map (fun i => i.desc) = some (.slice 54) := by kernel_rfl
theorem Try.row54 : (Try.prog.info? 54).map (fun i => (i.size, i.bytes, i.hasPointers)) = some (7, 72, true) := by kernel_rfl

theorem lotsAt {w : World} {blk off : Nat} {d : Array Lot} (h : Go.Sort.HoldsK encLot 7 w blk off d) (t : Nat) (ht : t < d.size) : LotAt w blk (off + t * 7) d[t]! :=
  ⟨(h.cell (c := 0) ht (by omega)).1, (h.cell (c := 1) ht (by omega)).1, (h.cell (c := 2) ht (by omega)).1, (h.cell (c := 3) ht (by omega)).1⟩

theorem sortSlice (blk off c Bs : Nat) (d : Array Lot) (h2 : 2 ≤ d.size) (hsz : d.size < 4611686018427387904) (w : World) (hH : Go.Sort.HoldsK encLot 7 w blk off d) (hblk : blk < w.heap.size)
    (hBs : w.cell? ⟨Bs, 0, none⟩ = some (.slice (some ⟨blk, off, none⟩) d.size c)) (hB1 : Bs < w.heap.size) (hB2 : Bs ≠ blk) :
    Calls Try.prog 27 #[.iface 41 (.slice (some ⟨blk, off, none⟩) d.size c), .func (.func 28) #[] #[.pointer (some ⟨Bs, 0, none⟩)]] w fun e w' =>
      e = .returned (.tuple #[]) ∧ ∃ d' n os, Go.Sort.PermIn 0 d.size d d' ∧ Go.Sort.SortedIn ltLot 0 d.size d' ∧ w' = Go.Sort.grow (Go.Sort.putRowK encLot 7 (Go.Sort.ahead w n) blk off d') os := by
  have hless : LessReadsK Try.prog 28 #[.pointer (some ⟨Bs, 0, none⟩)] encLot 7 ltLot blk off d.size w := by
    intro m os dk hs i j hi hj
    have e : sortWorldK encLot 7 w blk off m dk os = Go.Sort.putRowK encLot 7 (Go.Sort.grow (Go.Sort.ahead w m) os) blk off dk := by
      unfold sortWorldK; rw [Go.Sort.putRowK_grow _ _ (Go.Sort.ahead w m) _ blk off _ hblk]
    have hHg : Go.Sort.HoldsK encLot 7 (Go.Sort.grow (Go.Sort.ahead w m) os) blk off d := Go.Sort.holdsK_grow _ _ _ _ blk off d hblk (Go.Sort.holdsK_ahead _ _ _ _ _ _ _ hH)
    refine lessClosure blk off c Bs d.size _ (fun t => dk[t]!) ?_ (fun t ht => ?_) i j hi hj (by omega)
    · rw [e, Go.Sort.cell?_putRowK_other _ _ _ blk off dk _ (by exact hB2), Go.Sort.cell?_grow _ _ _ (by exact hB1)]; exact hBs
    · rw [e]; exact lotsAt (Go.Sort.holdsK_putRowK _ _ _ blk off d dk hHg hs) t (by omega)
  obtain ⟨iT, hT, hT'⟩ := Option.map_eq_some_iff.1 Try.row41
  obtain ⟨iE, hE, hE'⟩ := Option.map_eq_some_iff.1 Try.row54
  simp only [Prod.mk.injEq] at hE'
  have hK : Lib.swapperK d.size iE 25 = 9 := by
    have c : (d.size == 0) = false := beq_false_of_ne (by omega)
    have e : (d.size == 1) = false := beq_false_of_ne (by omega)
    simp [Lib.swapperK, hE'.2.1, hE'.2.2, c, e]
  exact Any.sort_Slice_cells_sorted Try.sl6 41 54 iT iE hT hT' (by kernel_rfl) hE 25 (fun _ => by kernel_rfl) encLot 7 (fun _ => rfl) hE'.1 (fun _ => by kernel_rfl)
    (fun x v hv => by simp [encLot] at hv; rcases hv with rfl | rfl | rfl | rfl | rfl | rfl | rfl <;> rfl) ltLot sto_lot.swo 28 _
    (enters_of Try.func28 (by kernel_rfl) rfl) blk off c d h2 hsz 48 (by rw [hK]; kernel_rfl) false
    (fun args W => run_callFunc_extern Try.func48 (by kernel_rfl) (by kernel_rfl) (by kernel_rfl) (e := Extern.ReflectliteSwapper.swap false) (by kernel_rfl) args W) w hless hH hblk

theorem sortTiny (p : Option Addr) (n c : Nat) (h1 : n ≤ 1) (lb : Array Value) (w : World) :
    Calls Try.prog 27 #[.iface 41 (.slice p n c), .func (.func 28) #[] lb] w fun e w' => e = .returned (.tuple #[]) ∧ ∃ os, w' = Go.Sort.grow w os := by
  obtain ⟨iT, hT, hT'⟩ := Option.map_eq_some_iff.1 Try.row41
  obtain ⟨iE, hE, hE'⟩ := Option.map_eq_some_iff.1 Try.row54
  rcases Nat.lt_or_ge n 1 with h | h
  · obtain rfl : n = 0 := by omega
    exact Any.sort_Slice_tiny Try.sl6 41 54 iT iE hT hT' (by kernel_rfl) hE 25 (fun _ => by kernel_rfl) p 0 c h1 40 (by unfold Lib.swapperK; rw [if_pos (by rfl)]; kernel_rfl) _ _ _ w
  · obtain rfl : n = 1 := by omega
    exact Any.sort_Slice_tiny Try.sl6 41 54 iT iE hT hT' (by kernel_rfl) hE 25 (fun _ => by kernel_rfl) p 1 c h1 41 (by unfold Lib.swapperK; rw [if_neg (by decide), if_pos (by rfl)]; kernel_rfl) _ _ _ w

/-- Every block but 'blk' is as it was; new ones may lie behind. -/
def KeepBut (blk : Nat) (w w' : World) : Prop := Below blk w w' ∧ ∀ B, B ≠ blk → B < w.heap.size → w'.heap[B]? = w.heap[B]?

/-- The row was sorted. -/
def GotSorted (w' : World) (blk : Nat) (d : Array Lot) : Prop := ∃ d', Go.Sort.PermIn 0 d.size d d' ∧ Go.Sort.SortedIn ltLot 0 d.size d' ∧ Go.Sort.HoldsK encLot 7 w' blk 0 d'

theorem keep_grow (w : World) (os : Array Obj) (blk : Nat) (h : blk ≤ w.heap.size) : KeepBut blk w (Go.Sort.grow w os) :=
  ⟨⟨rfl, rfl, rfl, by simp, fun k hk => Go.Sort.heap_grow_old w os (by omega)⟩, fun B _ hB => Go.Sort.heap_grow_old w os hB⟩

theorem keep_trans {blk : Nat} {a b c : World} (h : KeepBut blk a b) (k : KeepBut blk b c) : KeepBut blk a c :=
  ⟨h.1.trans k.1, fun B h1 h2 => (k.2 B h1 (Nat.lt_of_lt_of_le h2 h.1.size)).trans (h.2 B h1 h2)⟩

theorem keep_put (w : World) (n : Nat) (blk off : Nat) (d : Array Lot) : KeepBut blk w (Go.Sort.putRowK encLot 7 (Go.Sort.ahead w n) blk off d) := by
  have o : ∀ B, B ≠ blk → (Go.Sort.putRowK encLot 7 (Go.Sort.ahead w n) blk off d).heap[B]? = w.heap[B]? := by
    intro B hB
    show (w.heap.modify blk _)[B]? = _
    rw [Array.getElem?_modify, if_neg (fun h => hB h.symm)]
  exact ⟨⟨rfl, rfl, rfl, by rw [Go.Sort.size_putRowK]; exact Nat.le_refl _, fun k hk => o k (by omega)⟩, fun B h1 _ => o B h1⟩

theorem sortByHolding (blk c : Nat) (d : Array Lot) (hsz : d.size ≤ 65536) (w : World) (hH : Go.Sort.HoldsK encLot 7 w blk 0 d) (hblk : blk < w.heap.size) :
    Calls Try.prog 19 #[.slice (some ⟨blk, 0, none⟩) d.size c] w fun e w' => e = .returned (.tuple #[]) ∧ GotSorted w' blk d ∧ KeepBut blk w w' := by
  have K0 : ∀ o, KeepBut blk w (w.alloc o) := fun o => by rw [Go.Sort.alloc_eq_grow]; exact keep_grow _ _ _ (Nat.le_of_lt hblk)
  have H0 : ∀ o, Go.Sort.HoldsK encLot 7 (w.alloc o) blk 0 d := fun o => by rw [Go.Sort.alloc_eq_grow]; exact Go.Sort.holdsK_grow _ _ _ _ blk 0 d hblk hH
  by_cases h2 : 2 ≤ d.size
  · have M : Hid (Calls Try.prog 27 #[.iface 41 (.slice (some ⟨blk, 0, none⟩) d.size c), .func (.func 28) #[] #[.pointer (some ⟨w.heap.size, 0, none⟩)]] (w.alloc (.cells #[.slice (some ⟨blk, 0, none⟩) d.size c] 41)) fun e w' =>
        e = .returned (.tuple #[]) ∧ GotSorted w' blk d ∧ KeepBut blk w w') := by
      refine (sortSlice blk 0 c w.heap.size d h2 (by omega) _ (H0 _) (by simp; omega) ?_ (by simp) (by omega)).mono ?_
      · rw [(Row.new w 41 _).cell]; simp
      · rintro e w' ⟨rfl, d', n, os, hp, hs, rfl⟩
        have hz : blk < (w.alloc (.cells #[.slice (some ⟨blk, 0, none⟩) d.size c] 41)).heap.size := by simp; omega
        refine ⟨rfl, ⟨d', hp, hs, ?_⟩, keep_trans (K0 _) (keep_trans (keep_put _ n blk 0 d') (keep_grow _ os blk ?_))⟩
        · refine Go.Sort.holdsK_grow _ _ _ _ blk 0 d' (by rw [Go.Sort.size_putRowK]; exact hz) ?_
          exact Go.Sort.holdsK_putRowK _ _ _ blk 0 d d' (Go.Sort.holdsK_ahead _ _ _ _ _ _ _ (H0 _)) hp.1
        · rw [Go.Sort.size_putRowK]; exact Nat.le_of_lt hz
    clear K0 H0 hH
    generalize d.size = n at *
    go_enter Try.func19, Try.ntmps19
    go_wp2_with fail
    refine M.out.mono ?_
    rintro e w' ⟨rfl, hg, hk⟩
    go_wp2_with fail
    go_end0
    exact ⟨rfl, hg, hk⟩
  · have M : Hid (Calls Try.prog 27 #[.iface 41 (.slice (some ⟨blk, 0, none⟩) d.size c), .func (.func 28) #[] #[.pointer (some ⟨w.heap.size, 0, none⟩)]] (w.alloc (.cells #[.slice (some ⟨blk, 0, none⟩) d.size c] 41)) fun e w' =>
        e = .returned (.tuple #[]) ∧ GotSorted w' blk d ∧ KeepBut blk w w') := by
      refine (sortTiny _ _ c (by omega) _ _).mono ?_
      rintro e w' ⟨rfl, os, rfl⟩
      have hz : blk < (w.alloc (.cells #[.slice (some ⟨blk, 0, none⟩) d.size c] 41)).heap.size := by simp; omega
      exact ⟨rfl, ⟨d, ⟨rfl, fun _ _ => rfl, List.Perm.refl _⟩, fun i j _ h1 h3 => by omega, Go.Sort.holdsK_grow _ _ _ _ blk 0 d hz (H0 _)⟩, keep_trans (K0 _) (keep_grow _ os blk (Nat.le_of_lt hz))⟩
    clear K0 H0 hH
    generalize d.size = n at *
    go_enter Try.func19, Try.ntmps19
    go_wp2_with fail
    refine M.out.mono ?_
    rintro e w' ⟨rfl, hg, hk⟩
    go_wp2_with fail
    go_end0
    exact ⟨rfl, hg, hk⟩
end Go.Proofs.Qxb6604371a
