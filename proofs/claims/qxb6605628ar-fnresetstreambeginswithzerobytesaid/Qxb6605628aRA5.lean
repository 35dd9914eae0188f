import Derived.Test.Qxb6605628aRA4
import Derived.Laws.CopyOwn
namespace Go.Proofs.Qxb6605628aR
open Go.RowKit

set_option maxHeartbeats 400000 in
theorem zzBit (base B : Nat) (s : St) (k : Nat) (p b : Int) (v : Value) (w : World) (h : EncS w base B s v) (hg : Good k s) (hk : k ≤ 4096) (p0 : 31 ≤ p) (p1 : p ≤ 2017) :
    Calls Try.prog 34 #[.pointer (some ⟨B, 0, none⟩), .int .u16 p, .int .u32 b] w fun e w' => e = .returned (.int .u16 (bitP p b)) ∧ ∃ v', EncS w' base B (bitS s p b) v' ∧ Only w w' B v v' := by
  have E1 : Hid (∀ o : Obj, EncS (w.alloc o) base B s v) := fun o => ⟨h.row.alloc o, h.own.alloc o, h.ge⟩
  have R1 : Hid (Row (w.alloc (.cells #[.int .u16 p] 59)) w.heap.size 59 #[.int .u16 p]) := Row.new _ _ _
  have HG : Hid (Good k s) := hg
  clear h hg
  go_enter Try.func34, Try.ntmps34
  go_wp2_with fail
  refine (bit w base B w.heap.size s k p b v v _ (E1.out _) R1.out ((Only.refl _ _ _).alloc _) (Nat.le_refl _) HG.out hk p0 p1).mono ?_
  rintro e w' ⟨rfl, v', hE, hR, hO⟩
  have cq : w'.cell? ⟨w.heap.size, 0, none⟩ = some (.int .u16 (bitP p b)) := by rw [hR.cell]; simp
  have E2 : Hid (EncS w' base B (bitS s p b) v') := hE
  have O2 : Hid (Only w w' B v v') := hO
  clear hE hR hO E1 R1
  go_wp2_with fail
  go_ret
  exact ⟨rfl, v', E2.out, O2.out⟩

theorem newEncoder (low rng cache cs : Int) (a : Option Addr) (n c : Nat) (w : World) :
    Calls Try.prog 10 #[.int .u64 low, .int .u32 rng, .int .u8 cache, .int .i64 cs, .slice a n c] w fun e w' => e = .returned (.pointer (some ⟨w.heap.size, 0, none⟩)) ∧ w' = w.alloc (.cells (cellsE low rng cache cs (.slice a n c)) 79) := by
  unfold cellsE
  go_enter Try.func10, Try.ntmps10
  go_wp2
  go_ret
  exact ⟨rfl, rfl⟩

/-- The state of an encoder that has just been reset. -/
def St0 : St := ⟨0, 4294967295, 0, 1, []⟩
theorem good0 : Good 0 St0 := ⟨by decide, by decide, by decide, by decide, by decide, by decide, by decide, by decide, .inl ⟨rfl, rfl, by decide⟩⟩

theorem owns_zero {w : World} {base : Nat} {g n cap : Nat} {xs : List Value} (h : w.ownsRow base 5 1 (.slice (some ⟨g, 0, none⟩) n cap) n xs) : w.ownsRow base 5 1 (.slice (some ⟨g, 0, none⟩) 0 cap) 0 [] := by
  rcases h.2 with ⟨e, _⟩ | ⟨g', cap', cur, e, h1, h2, h3, h4, h5, h6⟩
  · simp at e
  · simp at e
    obtain ⟨rfl, rfl⟩ := e
    exact ⟨by simp, .inr ⟨g, cap, cur, rfl, h1, h2, by omega, h4, h5, by simp⟩⟩

set_option maxHeartbeats 400000 in
theorem reset (base B : Nat) (low rng cache cs : Int) (v : Value) (n : Nat) (xs : List Value) (w : World) (hr : Row w B 79 (cellsE low rng cache cs v)) (ho : w.ownsRow base 5 1 v n xs) (hge : base ≤ B) :
    Calls Try.prog 27 #[.pointer (some ⟨B, 0, none⟩)] w fun e w' => e = .returned (.tuple #[]) ∧ ∃ v', EncS w' base B St0 v' ∧ Only w w' B v v' := by
  have c0 : w.cell? ⟨B, 0, none⟩ = some (.int .u64 low) := by rw [hr.cell]; simp [cellsE]
  have c1 : w.cell? ⟨B, 1, none⟩ = some (.int .u32 rng) := by rw [hr.cell]; simp [cellsE]
  have c2 : w.cell? ⟨B, 2, none⟩ = some (.int .u8 cache) := by rw [hr.cell]; simp [cellsE]
  have c3 : w.cell? ⟨B, 3, none⟩ = some (.int .i64 cs) := by rw [hr.cell]; simp [cellsE]
  have c4 : w.cell? ⟨B, 4, none⟩ = some v := by rw [hr.cell]; simp [cellsE]
  have f0 := hr.free 0
  have f1 := hr.free 1
  have f2 := hr.free 2
  have f3 := hr.free 3
  have f4 := hr.free 4
  have hne : some B ≠ v.ownBlock := row_ne_own ho hr (by decide)
  have put : ∀ v', w.ownsRow base 5 1 v' 0 [] → v'.ownBlock = v.ownBlock → EncS (((((w.setCell ⟨B, 0, none⟩ (.int .u64 0)).setCell ⟨B, 1, none⟩ (.int .u32 4294967295)).setCell ⟨B, 2, none⟩ (.int .u8 0)).setCell ⟨B, 3, none⟩ (.int .i64 1)).setCell ⟨B, 4, none⟩ v') base B St0 v' := by
    intro v' h1 h2
    refine ⟨?_, ?_, hge⟩
    · have := ((((hr.set 0 (.int .u64 0)).set 1 (.int .u32 4294967295)).set 2 (.int .u8 0)).set 3 (.int .i64 1)).set 4 v'
      simpa [cellsE, St0] using this
    · have hn : v'.ownBlock ≠ some B := by rw [h2]; exact fun e => hne e.symm
      exact ownsRow_setCell_other (ownsRow_setCell_other (ownsRow_setCell_other (ownsRow_setCell_other (ownsRow_setCell_other h1 (a := ⟨B, 0, none⟩) hn _) (a := ⟨B, 1, none⟩) hn _) (a := ⟨B, 2, none⟩) hn _) (a := ⟨B, 3, none⟩) hn _) (a := ⟨B, 4, none⟩) hn _
  have only : ∀ v' : Value, v'.ownBlock = v.ownBlock → Only w (((((w.setCell ⟨B, 0, none⟩ (.int .u64 0)).setCell ⟨B, 1, none⟩ (.int .u32 4294967295)).setCell ⟨B, 2, none⟩ (.int .u8 0)).setCell ⟨B, 3, none⟩ (.int .i64 1)).setCell ⟨B, 4, none⟩ v') B v v' := by
    intro v' h2
    have h3 := (((((Only.refl w B v).setCell 0 (.int .u64 0)).setCell 1 (.int .u32 4294967295)).setCell 2 (.int .u8 0)).setCell 3 (.int .i64 1)).setCell 4 v'
    exact ⟨h3.os, h3.tape, h3.output, h3.size, h3.block, .inl h2⟩
  have HP : Hid (∀ v', w.ownsRow base 5 1 v' 0 [] → v'.ownBlock = v.ownBlock → EncS (((((w.setCell ⟨B, 0, none⟩ (.int .u64 0)).setCell ⟨B, 1, none⟩ (.int .u32 4294967295)).setCell ⟨B, 2, none⟩ (.int .u8 0)).setCell ⟨B, 3, none⟩ (.int .i64 1)).setCell ⟨B, 4, none⟩ v') base B St0 v') := put
  have HO : Hid (∀ v' : Value, v'.ownBlock = v.ownBlock → Only w (((((w.setCell ⟨B, 0, none⟩ (.int .u64 0)).setCell ⟨B, 1, none⟩ (.int .u32 4294967295)).setCell ⟨B, 2, none⟩ (.int .u8 0)).setCell ⟨B, 3, none⟩ (.int .i64 1)).setCell ⟨B, 4, none⟩ v') B v v') := only
  clear put only hr hne
  rcases id ho.2 with ⟨rfl, _⟩ | ⟨g, cap, cur, rfl, _⟩
  · clear ho
    go_enter Try.func27, Try.ntmps27
    go_wp2
    go_end0
    go_wp2
    go_end0
    exact ⟨rfl, _, HP.out _ (World.ownsRow_nil _ _ _ _) rfl, HO.out _ rfl⟩
  · have hz : Hid (w.ownsRow base 5 1 (.slice (some ⟨g, 0, none⟩) 0 cap) 0 []) := owns_zero ho
    clear ho
    go_enter Try.func27, Try.ntmps27
    go_wp2
    go_end0
    go_wp2
    go_end0
    exact ⟨rfl, _, HP.out _ hz.out rfl, HO.out _ rfl⟩

theorem getRng (base B : Nat) (s : St) (v : Value) (w : World) (h : EncS w base B s v) :
    Calls Try.prog 24 #[.pointer (some ⟨B, 0, none⟩)] w fun e w' => e = .returned (.int .u32 s.rng) ∧ w' = w := by
  have c1 : w.cell? ⟨B, 1, none⟩ = some (.int .u32 s.rng) := by rw [h.row.cell]; simp [cellsE]
  clear h
  go_enter Try.func24, Try.ntmps24
  go_wp2
  go_ret
  exact ⟨rfl, rfl⟩

theorem getOut (base B : Nat) (s : St) (v : Value) (w : World) (h : EncS w base B s v) :
    Calls Try.prog 25 #[.pointer (some ⟨B, 0, none⟩)] w fun e w' => e = .returned (v) ∧ w' = w := by
  have c1 : w.cell? ⟨B, 4, none⟩ = some (v) := by rw [h.row.cell]; simp [cellsE]
  clear h
  go_enter Try.func25, Try.ntmps25
  go_wp2
  go_ret
  exact ⟨rfl, rfl⟩

theorem getCs (base B : Nat) (s : St) (v : Value) (w : World) (h : EncS w base B s v) :
    Calls Try.prog 28 #[.pointer (some ⟨B, 0, none⟩)] w fun e w' => e = .returned (.int .i64 s.cs) ∧ w' = w := by
  have c1 : w.cell? ⟨B, 3, none⟩ = some (.int .i64 s.cs) := by rw [h.row.cell]; simp [cellsE]
  clear h
  go_enter Try.func28, Try.ntmps28
  go_wp2
  go_ret
  exact ⟨rfl, rfl⟩

theorem getLow (base B : Nat) (s : St) (v : Value) (w : World) (h : EncS w base B s v) :
    Calls Try.prog 35 #[.pointer (some ⟨B, 0, none⟩)] w fun e w' => e = .returned (.int .u64 s.low) ∧ w' = w := by
  have c1 : w.cell? ⟨B, 0, none⟩ = some (.int .u64 s.low) := by rw [h.row.cell]; simp [cellsE]
  clear h
  go_enter Try.func35, Try.ntmps35
  go_wp2
  go_ret
  exact ⟨rfl, rfl⟩

theorem getCache (base B : Nat) (s : St) (v : Value) (w : World) (h : EncS w base B s v) :
    Calls Try.prog 36 #[.pointer (some ⟨B, 0, none⟩)] w fun e w' => e = .returned (.int .u8 s.cache) ∧ w' = w := by
  have c1 : w.cell? ⟨B, 2, none⟩ = some (.int .u8 s.cache) := by rw [h.row.cell]; simp [cellsE]
  clear h
  go_enter Try.func36, Try.ntmps36
  go_wp2
  go_ret
  exact ⟨rfl, rfl⟩

theorem make25 (n : Nat) (hn : n ≤ 65536) (W : World) : (Instr.makeSlice 25 (.int .i64 n) (.int .i64 n)).run Try.prog W = .ok (.slice (some ⟨W.heap.size, 0, none⟩) n n) (W.alloc (.cells (madeCells #[.int .u8 0] n) 5)) := by
  obtain ⟨i0, hi, hz0, hz1, hz2⟩ := info_parts Try.info5
  have := run_make (P := Try.prog) W 25 5 i0 (.int .u8 0) Try.underlying25 hi hz0 .i64 .i64 n n (by omega) (by omega) (by rw [hz2]; omega) (by omega)
  rw [this, hz1]; simp [Value.cells]

theorem add_at (b off j : Nat) : (⟨b, off, none⟩ : Addr).add j = ⟨b, off + j, none⟩ := by
  unfold Addr.add
  split
  · simp_all
  · rfl

/-- The call handed back a slice of bytes of its own. -/
def GotOwn (e : Ending) (w' : World) (base : Nat) : Prop := ∃ a n c xs, e = .returned (.slice a n c) ∧ w'.ownsRow base 5 1 (.slice a n c) n xs

set_option maxHeartbeats 400000 in
theorem cloneBytes (a : Option Addr) (n c : Nat) (f : Nat → Int) (w : World) (hn : n ≤ 65536) (h : Holds w a n fun i => .int .u8 (f i)) (hnil : a = none → n = 0) :
    Calls Try.prog 8 #[.slice a n c] w fun e w' => GotOwn e w' w.heap.size ∧ Below w.heap.size w w' := by
  have q25 : ∀ (w : World) (a : Option Addr) (n c n' c' : Nat), (binOp .eql 25 (.slice a n c) (.slice none n' c')).run Try.prog w = .ok (.bool a.isNone) w := fun w a n c n' c' => Lib.run_eql_slice_nil w _ _ a n c n' c' Try.underlying25
  by_cases ha : a = none
  · subst ha
    obtain rfl := hnil rfl
    clear h hnil
    go_enter Try.func8, Try.ntmps8
    go_wp2
    go_ret
    exact ⟨⟨none, 0, 0, [], rfl, World.ownsRow_nil _ _ _ _⟩, Below.refl _ _⟩
  · have hi : a.isNone = false := by cases a <;> simp_all
    have hmk := make25 n hn
    have hrow : Hid (Row (w.alloc (.cells (madeCells #[.int .u8 0] n) 5)) w.heap.size 5 (madeCells #[.int .u8 0] n)) := Row.new _ _ _
    have hbel : Hid (Below w.heap.size w (w.alloc (.cells (madeCells #[.int .u8 0] n) 5))) := (Below.refl _ _).alloc (Nat.le_refl _) _
    have hpos : Hid (0 < ((List.range n).map fun i => Value.int .u8 (f i)).length → (some (⟨w.heap.size, 0, none⟩ : Addr) = some ⟨w.heap.size, 0, none⟩ ∧ ∃ ad, a = some ad ∧ ∀ j v, ((List.range n).map fun i => Value.int .u8 (f i))[j]? = some v → (w.alloc (.cells (madeCells #[.int .u8 0] n) 5)).cell? (ad.add j) = some v)) := by
      intro h0
      obtain ⟨b, off, rfl, _⟩ := h 0 (by simpa using h0)
      refine ⟨rfl, _, rfl, fun j v hj => ?_⟩
      have hj' : j < n := by
        have := (List.getElem?_eq_some_iff.1 hj).1
        simpa using this
      simp [hj'] at hj
      subst hj
      obtain ⟨b', off', e, hc⟩ := (h.below hbel.out) j hj'
      simp at e
      obtain ⟨rfl, rfl⟩ := e
      rw [add_at]
      exact hc
    have hfr : Hid (∀ w' : World, w'.heap[w.heap.size]? = some (.cells (splice (madeCells #[.int .u8 0] n).toList 0 ((List.range n).map fun i => Value.int .u8 (f i))).toArray 5 (0, 0)) → w'.ownsRow w.heap.size 5 1 (.slice (some ⟨w.heap.size, 0, none⟩) n n) n (splice (madeCells #[.int .u8 0] n).toList 0 ((List.range n).map fun i => Value.int .u8 (f i)))) := by
      intro w' hw'
      have hl : (splice (madeCells #[Value.int .u8 0] n).toList 0 ((List.range n).map fun i => Value.int .u8 (f i))).length = n := by
        rw [length_splice _ _ _ (by simp [size_madeCells])]; simp [size_madeCells]
      exact ⟨by rw [hl]; omega, .inr ⟨w.heap.size, n, _, rfl, Nat.le_refl _, hw', Nat.le_refl _, by unfold maxLen; omega, by simp [hl], by rw [Nat.mul_one]; exact List.take_of_length_le (by simp [hl])⟩⟩
    clear h hnil ha
    go_enter Try.func8, Try.ntmps8
    go_upto_region 4 with fail
    go_wp2_with (first | (refine wpList_copy_splice rfl (.tmp 9) (.tmp 10) 25 25 rfl 5 Try.underlying25 (by kernel_rfl) (some ⟨w.heap.size, 0, none⟩) a n n n c rfl rfl w.heap.size 0 (madeCells #[.int .u8 0] n).toList 5 ?hg ((List.range n).map fun i => Value.int .u8 (f i)) ?hn hpos.out ?hfit ?h1 w.heap.size w hbel.out (Nat.le_refl _) ?_))
    case hg => simpa [Row] using hrow.out
    case hfit => simp [size_madeCells]
    case h1 =>
      intro v _
      rfl
    · intro w' hh hb
      have R : Hid (w'.ownsRow w.heap.size 5 1 (.slice (some ⟨w.heap.size, 0, none⟩) n n) n _) := hfr.out w' hh.out
      clear hrow hbel hpos hfr hmk q25
      go_wp2
      go_ret
      exact ⟨⟨_, _, _, _, rfl, R.out⟩, hb⟩
end Go.Proofs.Qxb6605628aR
