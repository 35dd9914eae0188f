import Derived.Test.Qxb6604371aA5
import Derived.RegionTactic
import Derived.BigRegion
import Derived.Deep.RegionWith
namespace Go.Proofs.Qxb6604371a
open Go.RowKit

theorem Try.info58 : (Try.prog.info? 58).map (fun i => (i.zero, i.size, i.bytes)) = some (some (.agg #[.int .i32 0, .string ⟨#[]⟩]), 2, 24) := by kernel_rfl

theorem make29 (n : Nat) (hn : n ≤ 65536) (W : World) : (Instr.makeSlice 29 (.int .i64 n) (.int .i64 n)).run Try.prog W = .ok (.slice (some ⟨W.heap.size, 0, none⟩) n n) (W.alloc (.cells (madeCells #[.int .i32 0, .string ⟨#[]⟩] (n * 2)) 58)) := by
  obtain ⟨i0, hi, hz0, hz1, hz2⟩ := info_parts Try.info58
  have := run_make (P := Try.prog) W 29 58 i0 (.agg #[.int .i32 0, .string ⟨#[]⟩]) Try.underlying29 hi hz0 .i64 .i64 n n (by omega) (by omega) (by rw [hz2]; omega) (by omega)
  rw [this, hz1]; simp [Value.cells]

theorem newEntry' (d g : Int) (a1 a2 : Option Addr) (n1 c1 n2 c2 : Nat) (w : World) :
    Calls Try.prog 25 #[.int .i32 d, .slice a1 n1 c1, .slice a2 n2 c2, .int .i32 g] w fun e w' => e = .returned (.agg #[.int .i32 d, .slice a1 n1 c1, .slice a2 n2 c2, .int .i32 g, .string ⟨#[]⟩]) ∧ Below w.heap.size w w' := by
  refine (newEntry d g a1 a2 n1 c1 n2 c2 w).mono ?_
  rintro e w' ⟨rfl, rfl⟩
  exact ⟨rfl, (Below.refl _ _).alloc (Nat.le_refl _) _⟩

/-- The entry, stored cell by cell into the result's block. -/
def put5 (w : World) (B : Nat) (d g : Int) (a1 a2 : Option Addr) (n1 c1 n2 c2 : Nat) : World :=
  ((((w.setCell ⟨B, 0, none⟩ (.int .i32 d)).setCell ⟨B, 1, none⟩ (.slice a1 n1 c1)).setCell ⟨B, 2, none⟩ (.slice a2 n2 c2)).setCell ⟨B, 3, none⟩ (.int .i32 g)).setCell ⟨B, 4, none⟩ (.string ⟨#[]⟩)

theorem put5_row {w : World} {B : Nat} {z0 z1 z2 z3 z4 : Value} (h : Row w B 31 #[z0, z1, z2, z3, z4]) (d g : Int) (a1 a2 : Option Addr) (n1 c1 n2 c2 : Nat) :
    Row (put5 w B d g a1 a2 n1 c1 n2 c2) B 31 #[.int .i32 d, .slice a1 n1 c1, .slice a2 n2 c2, .int .i32 g, .string ⟨#[]⟩] := by
  have := ((((h.set 0 (.int .i32 d)).set 1 (.slice a1 n1 c1)).set 2 (.slice a2 n2 c2)).set 3 (.int .i32 g)).set 4 (.string ⟨#[]⟩)
  simpa [put5] using this

theorem put5_below {w w' : World} {B : Nat} (h : Below B w w') (d g : Int) (a1 a2 : Option Addr) (n1 c1 n2 c2 : Nat) : Below B w (put5 w' B d g a1 a2 n1 c1 n2 c2) :=
  ((((h.setCell (by simp) _).setCell (by simp) _).setCell (by simp) _).setCell (by simp) _).setCell (by simp) _

/-- The block where a row lies stays as it is while another is written. -/
theorem put5_other {w : World} {B C : Nat} {t : TypeId} {arr : Array Value} (h : Row w C t arr) (hne : C ≠ B) (d g : Int) (a1 a2 : Option Addr) (n1 c1 n2 c2 : Nat) : Row (put5 w B d g a1 a2 n1 c1 n2 c2) C t arr :=
  ((((h.other hne _).other hne _).other hne _).other hne _).other hne _

/-- Where the 'i'-th conversion is taken from. -/
def srcOf (rev : Bool) (n i : Nat) : Nat := if rev then n - 1 - i else i

/-- The call handed back an entry of these fields. -/
def GotEntry (e : Ending) (w' : World) (d g : Int) (a1 : Option Addr) (n1 c1 n : Nat) (f : Nat → Int) (h : Nat → ByteArray) : Prop :=
  ∃ a c, e = .returned (.agg #[.int .i32 d, .slice a1 n1 c1, .slice a n c, .int .i32 g, .string ⟨#[]⟩]) ∧ Convs w' a n f h

theorem conv_step {arr : Array Value} {n k : Nat} {f : Nat → Int} {h : Nat → ByteArray} (hs : arr.size = n * 2) (hk : k < n) (hf : ∀ j, j < k → arr[j * 2]? = some (.int .i32 (f j)) ∧ arr[j * 2 + 1]? = some (.string (h j))) :
    ∀ j, j < k + 1 → ((arr.setIfInBounds (k * 2) (.int .i32 (f k))).setIfInBounds (k * 2 + 1) (.string (h k)))[j * 2]? = some (.int .i32 (f j)) ∧ ((arr.setIfInBounds (k * 2) (.int .i32 (f k))).setIfInBounds (k * 2 + 1) (.string (h k)))[j * 2 + 1]? = some (.string (h j)) := by
  intro j hj
  simp only [Array.getElem?_setIfInBounds, Array.size_setIfInBounds]
  by_cases e : j = k
  · subst e
    rw [if_neg (by omega), if_pos rfl, if_pos (by omega), if_pos rfl, if_pos (by omega)]
    exact ⟨rfl, rfl⟩
  · rw [if_neg (by omega), if_neg (by omega), if_neg (by omega), if_neg (by omega)]
    exact hf j (by omega)

/-- What the loop's round keeps. -/
def EntRel (w wr : World) (n k : Nat) (f : Nat → Int) (h : Nat → ByteArray) : Prop :=
  ∃ arr, Row wr (w.heap.size + 1) 58 arr ∧ arr.size = n * 2 ∧ (∀ j, j < k → arr[j * 2]? = some (.int .i32 (f j)) ∧ arr[j * 2 + 1]? = some (.string (h j))) ∧ Below w.heap.size w wr ∧
    Row wr w.heap.size 31 #[.int .i32 0, .slice none 0 0, .slice none 0 0, .int .i32 0, .string ⟨#[]⟩]

theorem EntRel.step {w wr : World} {n k : Nat} {f : Nat → Int} {h : Nat → ByteArray} (hr : EntRel w wr n k f h) (hk : k < n) (o : Obj) :
    EntRel w (((wr.setCell ⟨w.heap.size + 1, k * 2, none⟩ (.int .i32 (f k))).setCell ⟨w.heap.size + 1, k * 2 + 1, none⟩ (.string (h k))).alloc o).drew n (k + 1) f h := by
  obtain ⟨arr, hrow, hsz, hf, hbel, hres⟩ := hr
  have hz := hrow.lt
  refine ⟨_, (((hrow.set _ _).set _ _).alloc o).drew, by simp [hsz], conv_step hsz hk hf, ?_, ?_⟩
  · exact (((hbel.setCell (by simp) _).setCell (by simp) _).alloc (by rw [size_setCell, size_setCell]; omega) _).drew
  · exact (((hres.other (by simp) _).other (by simp) _).alloc _).drew

set_option maxHeartbeats 1000000 in
theorem buildEntry (d g : Int) (a1 a2 a3 : Option Addr) (n1 c1 n c2 c3 : Nat) (rev : Bool) (f : Nat → Int) (h : Nat → ByteArray) (w : World) (hn : n ≤ 65536)
    (h2 : Holds w a2 n fun i => .int .i32 (f i)) (h3 : Holds w a3 n fun i => .string (h i)) (hnil : a2 = none → n = 0) :
    Calls Try.prog 11 #[.int .i32 d, .slice a1 n1 c1, .slice a2 n c2, .slice a3 n c3, .int .i32 g, .bool rev] w fun e w' =>
      GotEntry e w' d g a1 n1 c1 n (fun i => f (srcOf rev n i)) (fun i => h (srcOf rev n i)) ∧ Below w.heap.size w w' := by
  have q23 : ∀ (w : World) (a : Option Addr) (n c n' c' : Nat), (binOp .neq 23 (.slice a n c) (.slice none n' c')).run Try.prog w = .ok (.bool (!a.isNone)) w := fun w a n c n' c' => run_neq_slice_nil_any w _ _ a n c n' c' Try.underlying23
  by_cases ha : a2 = none
  · subst ha
    obtain rfl := hnil rfl
    clear h2 h3 hnil
    go_enter Try.func11, Try.ntmps11
    go_wp2_with fail
    go_loop [15] (fun i => i = .int .i64 0) (fun _ => 0)
    case atStart => rfl
    case round =>
    subst hrel
    go_wp2_with fail
    refine (newEntry' _ _ _ _ _ _ _ _ _).mono ?_
    rintro e w' ⟨rfl, hb⟩
    have T1 := (Row.new w 31 #[.int .i32 0, .slice none 0 0, .slice none 0 0, .int .i32 0, .string ⟨#[]⟩]).below hb (by simp)
    have T2 : Hid (Below w.heap.size w w') := ((Below.refl _ _).alloc (Nat.le_refl _) _).trans (hb.mono (by simp))
    have g0 : w'.cell? ⟨w.heap.size, 0, none⟩ = some (.int .i32 0) := by rw [T1.cell]; simp
    have g1 : w'.cell? ⟨w.heap.size, 1, none⟩ = some (.slice none 0 0) := by rw [T1.cell]; simp
    have g2 : w'.cell? ⟨w.heap.size, 2, none⟩ = some (.slice none 0 0) := by rw [T1.cell]; simp
    have g3 : w'.cell? ⟨w.heap.size, 3, none⟩ = some (.int .i32 0) := by rw [T1.cell]; simp
    have g4 : w'.cell? ⟨w.heap.size, 4, none⟩ = some (.string ⟨#[]⟩) := by rw [T1.cell]; simp
    have e0 := T1.free 0
    have e1 := T1.free 1
    have e2 := T1.free 2
    have e3 := T1.free 3
    have e4 := T1.free 4
    clear hb
    have U := put5_row T1 d g a1 none n1 c1 0 0
    have U0 : Hid ((put5 w' w.heap.size d g a1 none n1 c1 0 0).cell? ⟨w.heap.size, 0, none⟩ = some (.int .i32 d)) := by show _ = _; rw [U.cell]; simp
    have U1 : Hid ((put5 w' w.heap.size d g a1 none n1 c1 0 0).cell? ⟨w.heap.size, 1, none⟩ = some (.slice a1 n1 c1)) := by show _ = _; rw [U.cell]; simp
    have U2 : Hid ((put5 w' w.heap.size d g a1 none n1 c1 0 0).cell? ⟨w.heap.size, 2, none⟩ = some (.slice none 0 0)) := by show _ = _; rw [U.cell]; simp
    have U3 : Hid ((put5 w' w.heap.size d g a1 none n1 c1 0 0).cell? ⟨w.heap.size, 3, none⟩ = some (.int .i32 g)) := by show _ = _; rw [U.cell]; simp
    have U4 : Hid ((put5 w' w.heap.size d g a1 none n1 c1 0 0).cell? ⟨w.heap.size, 4, none⟩ = some (.string ⟨#[]⟩)) := by show _ = _; rw [U.cell]; simp
    clear U T1
    go_wp2_with fail
    have q0 := U0.out
    have q1 := U1.out
    have q2 := U2.out
    have q3 := U3.out
    have q4 := U4.out
    unfold put5 at q0 q1 q2 q3 q4
    refine bodyPost_ret (v := .agg #[.int .i32 d, .slice a1 n1 c1, .slice none 0 0, .int .i32 g, .string ⟨#[]⟩]) (by simp [results, Try.results11, go_sem, q0, q1, q2, q3, q4]) rfl ⟨⟨_, _, rfl, ?_⟩, ?_⟩
    · exact fun i hi => absurd hi (Nat.not_lt_zero _)
    · exact put5_below T2.out d g a1 none n1 c1 0 0
  · have hi : a2.isNone = false := by cases a2 <;> simp_all
    have hmk := make29 n hn
    go_enter Try.func11, Try.ntmps11
    go_wp2_with fail
    clear q23 hmk ha hnil
    go_loopw [15] (fun i wr => ∃ k : Nat, k ≤ n ∧ i = .int .i64 k ∧ EntRel w wr n k (fun i => f (srcOf rev n i)) (fun i => h (srcOf rev n i))) (fun i _ => n - (intOf i).toNat)
    case atStart =>
      refine ⟨0, Nat.zero_le _, rfl, madeCells #[.int .i32 0, .string ⟨#[]⟩] (n * 2), ?_, size_madeCells _ _, fun j hj => absurd hj (Nat.not_lt_zero _), ((Below.refl _ _).alloc (Nat.le_refl _) _).alloc (by simp) _, (Row.new _ _ _).alloc _⟩
      have := Row.new (w.alloc (.cells #[.int .i32 0, .slice none 0 0, .slice none 0 0, .int .i32 0, .string ⟨#[]⟩] 31)) 58 (madeCells #[.int .i32 0, .string ⟨#[]⟩] (n * 2))
      simpa using this
    case round =>
      obtain ⟨k, hk, rfl, hR⟩ := hrel
      obtain ⟨arr, hrow, hsz, hf, hbel, hres⟩ := id hR
      have hz := hrow.lt
      by_cases hlt : k < n
      · have hlt2 : k * 2 + 1 < arr.size := by omega
        obtain ⟨v0, w0⟩ : ∃ v, wr.cell? ⟨w.heap.size + 1, k * 2, none⟩ = some v := ⟨arr[k * 2], by rw [hrow.cell]; simp⟩
        obtain ⟨v1, w1⟩ : ∃ v, wr.cell? ⟨w.heap.size + 1, k * 2 + 1, none⟩ = some v := ⟨arr[k * 2 + 1], by rw [hrow.cell]; simp⟩
        have f0 := hrow.free (k * 2)
        have f1 := hrow.free (k * 2 + 1)
        have S := fun o => Hid.out (p := EntRel w _ n (k + 1) _ _) (hR.step hlt o)
        cases rev
        · obtain ⟨b, off, ha, hc⟩ := (h2.below hbel) k hlt
          obtain ⟨b3, off3, ha3, hc3⟩ := (h3.below hbel) k hlt
          have lb := lt_of_cell hc
          have lb3 := lt_of_cell hc3
          subst ha ha3
          have S' : Hid (∀ o, EntRel w (((wr.setCell ⟨w.heap.size + 1, k * 2, none⟩ (.int .i32 (f k))).setCell ⟨w.heap.size + 1, k * 2 + 1, none⟩ (.string (h k))).alloc o).drew n (k + 1) (fun i => f (srcOf false n i)) (fun i => h (srcOf false n i))) := fun o => S o
          clear h2 h3 hrow hsz hf hbel hres hi hlt2 S hR
          go_wp2_with fail
          go_region_with (go_at_call 24; refine (newConversion _ _ _).mono ?_; rintro e w' ⟨rfl, rfl⟩)
          all_goals
            go_wp2_with fail
            go_roundw
            case rel => exact ⟨k + 1, by omega, by go_num, S'.out _⟩
            case measure => simp [intOf]; omega
        · obtain ⟨b, off, ha, hc⟩ := (h2.below hbel) (n - 1 - k) (by omega)
          obtain ⟨b3, off3, ha3, hc3⟩ := (h3.below hbel) (n - 1 - k) (by omega)
          have lb := lt_of_cell hc
          have lb3 := lt_of_cell hc3
          subst ha ha3
          have S' : Hid (∀ o, EntRel w (((wr.setCell ⟨w.heap.size + 1, k * 2, none⟩ (.int .i32 (f (n - 1 - k)))).setCell ⟨w.heap.size + 1, k * 2 + 1, none⟩ (.string (h (n - 1 - k)))).alloc o).drew n (k + 1) (fun i => f (srcOf true n i)) (fun i => h (srcOf true n i))) := fun o => S o
          clear h2 h3 hrow hsz hf hbel hres hi hlt2 S hR
          have he : Hid (((n : Int) - 1 - (k : Int)) = ((n - 1 - k : Nat) : Int)) := by show _ = _; omega
          obtain ⟨t, ht⟩ : ∃ t, t = n - 1 - k := ⟨_, rfl⟩
          rw [← ht] at he hc hc3 S'
          have hlt3 : t < n := by omega
          clear ht
          go_wp2_with fail
          rw [he.out]
          go_region_with (go_at_call 24; refine (newConversion _ _ _).mono ?_; rintro e w' ⟨rfl, rfl⟩)
          all_goals
            go_wp2_with fail
            go_roundw
            case rel => exact ⟨k + 1, by omega, by go_num, S'.out _⟩
            case measure => simp [intOf]; omega
      · clear hi
        obtain rfl : k = n := by omega
        have C : Hid (∀ w', Row w' (w.heap.size + 1) 58 arr → Convs w' (some ⟨w.heap.size + 1, 0, none⟩) k (fun i => f (srcOf rev k i)) (fun i => h (srcOf rev k i))) := fun w' hw' i hi => ⟨_, _, rfl, by rw [Nat.zero_add, hw'.cell]; exact (hf i hi).1, by rw [Nat.zero_add, hw'.cell]; exact (hf i hi).2⟩
        clear hf hR h2 h3 hsz
        go_wp2_with fail
        refine (newEntry' _ _ _ _ _ _ _ _ _).mono ?_
        rintro e w' ⟨rfl, hb⟩
        have T0 : Hid (Row w' (w.heap.size + 1) 58 arr) := hrow.below hb (by omega)
        have T1 := hres.below hb (by omega)
        have T2 : Hid (Below w.heap.size w w') := hbel.trans (hb.mono (by omega))
        have g0 : w'.cell? ⟨w.heap.size, 0, none⟩ = some (.int .i32 0) := by rw [T1.cell]; simp
        have g1 : w'.cell? ⟨w.heap.size, 1, none⟩ = some (.slice none 0 0) := by rw [T1.cell]; simp
        have g2 : w'.cell? ⟨w.heap.size, 2, none⟩ = some (.slice none 0 0) := by rw [T1.cell]; simp
        have g3 : w'.cell? ⟨w.heap.size, 3, none⟩ = some (.int .i32 0) := by rw [T1.cell]; simp
        have g4 : w'.cell? ⟨w.heap.size, 4, none⟩ = some (.string ⟨#[]⟩) := by rw [T1.cell]; simp
        have e0 := T1.free 0
        have e1 := T1.free 1
        have e2 := T1.free 2
        have e3 := T1.free 3
        have e4 := T1.free 4
        clear hb hrow hres hbel
        have U := put5_row T1 d g a1 (some ⟨w.heap.size + 1, 0, none⟩) n1 c1 k k
        have U0 : Hid ((put5 w' w.heap.size d g a1 (some ⟨w.heap.size + 1, 0, none⟩) n1 c1 k k).cell? ⟨w.heap.size, 0, none⟩ = some (.int .i32 d)) := by show _ = _; rw [U.cell]; simp
        have U1 : Hid ((put5 w' w.heap.size d g a1 (some ⟨w.heap.size + 1, 0, none⟩) n1 c1 k k).cell? ⟨w.heap.size, 1, none⟩ = some (.slice a1 n1 c1)) := by show _ = _; rw [U.cell]; simp
        have U2 : Hid ((put5 w' w.heap.size d g a1 (some ⟨w.heap.size + 1, 0, none⟩) n1 c1 k k).cell? ⟨w.heap.size, 2, none⟩ = some (.slice (some ⟨w.heap.size + 1, 0, none⟩) k k)) := by show _ = _; rw [U.cell]; simp
        have U3 : Hid ((put5 w' w.heap.size d g a1 (some ⟨w.heap.size + 1, 0, none⟩) n1 c1 k k).cell? ⟨w.heap.size, 3, none⟩ = some (.int .i32 g)) := by show _ = _; rw [U.cell]; simp
        have U4 : Hid ((put5 w' w.heap.size d g a1 (some ⟨w.heap.size + 1, 0, none⟩) n1 c1 k k).cell? ⟨w.heap.size, 4, none⟩ = some (.string ⟨#[]⟩)) := by show _ = _; rw [U.cell]; simp
        clear U T1
        go_wp2_with fail
        have q0 := U0.out
        have q1 := U1.out
        have q2 := U2.out
        have q3 := U3.out
        have q4 := U4.out
        unfold put5 at q0 q1 q2 q3 q4
        refine bodyPost_ret (v := .agg #[.int .i32 d, .slice a1 n1 c1, .slice (some ⟨w.heap.size + 1, 0, none⟩) k k, .int .i32 g, .string ⟨#[]⟩]) (by simp [results, Try.results11, go_sem, q0, q1, q2, q3, q4]) rfl ⟨⟨_, _, rfl, ?_⟩, ?_⟩
        · exact C.out _ (put5_other T0.out (by omega) d g a1 (some ⟨w.heap.size + 1, 0, none⟩) n1 c1 k k)
        · exact put5_below T2.out d g a1 (some ⟨w.heap.size + 1, 0, none⟩) n1 c1 k k
end Go.Proofs.Qxb6604371a
