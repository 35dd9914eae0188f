import Derived.Test.Qxb6604371aA3
import Derived.Outline
namespace Go.Proofs.Qxb6604371a
open Go.RowKit

/-- The latest event after the first 'k' conversions. -/
def lastTo (g d : Int) (f : Nat → Int) : Nat → Int × Int
  | 0 => later (g, 0) (d, 1)
  | k + 1 => later (lastTo g d f k) (f k, 2)

/-- A slice of 'n' conversions, whose days are 'f 0', 'f 1' .. -/
def Convs (w : World) (a : Option Addr) (n : Nat) (f : Nat → Int) (h : Nat → ByteArray) : Prop :=
  ∀ i, i < n → ∃ b off, a = some ⟨b, off, none⟩ ∧ w.cell? ⟨b, off + i * 2, none⟩ = some (.int .i32 (f i)) ∧ w.cell? ⟨b, off + i * 2 + 1, none⟩ = some (.string (h i))

theorem Convs.below {w w' : World} {a : Option Addr} {n : Nat} {f : Nat → Int} {h : Nat → ByteArray} (hc : Convs w a n f h) (hb : Below w.heap.size w w') : Convs w' a n f h := by
  intro i hi
  obtain ⟨b, off, ha, h1, h2⟩ := hc i hi
  exact ⟨b, off, ha, (hb.cell (p := ⟨b, off + i * 2, none⟩) (lt_of_cell h1)).trans h1, (hb.cell (p := ⟨b, off + i * 2 + 1, none⟩) (lt_of_cell h2)).trans h2⟩

set_option maxHeartbeats 400000 in
theorem lastEvent (d g : Int) (a1 a : Option Addr) (n1 c1 n c : Nat) (f : Nat → Int) (h : Nat → ByteArray) (w : World) (hn : n ≤ 65536) (hc : Convs w a n f h) :
    Calls Try.prog 32 #[.agg #[.int .i32 d, .slice a1 n1 c1, .slice a n c, .int .i32 g, .string ⟨#[]⟩]] w fun e w' => e = .returned (.agg #[.int .i32 (lastTo g d f n).1, .int .i64 (lastTo g d f n).2]) ∧ Below w.heap.size w w' := by
  have R0 : Hid (∀ (o1 o2 : Obj), Row (((w.alloc o1).alloc o2).alloc (.cells #[.int .i32 g, .int .i64 0] 35)) (w.heap.size + 1 + 1) 35 #[.int .i32 g, .int .i64 0]) := fun o1 o2 => by
    have := Row.new ((w.alloc o1).alloc o2) 35 #[.int .i32 g, .int .i64 0]
    simpa using this
  have R1 : Hid (∀ (o1 o3 : Obj), Row (((w.alloc o1).alloc (.cells #[.int .i32 0, .int .i64 0] 35)).alloc o3) (w.heap.size + 1) 35 #[.int .i32 0, .int .i64 0]) := fun o1 o3 => by
    have := (Row.new (w.alloc o1) 35 #[.int .i32 0, .int .i64 0]).alloc o3
    simpa using this
  have R2 : Hid (∀ (arr : Array Value) (t : TypeId) (o2 o3 : Obj), Row (((w.alloc (.cells arr t)).alloc o2).alloc o3) w.heap.size t arr) := fun arr t o2 o3 => ((Row.new w t arr).alloc o2).alloc o3
  have hB0 : Hid (∀ (o1 o2 o3 : Obj), Below w.heap.size w (((w.alloc o1).alloc o2).alloc o3)) := fun o1 o2 o3 => (((Below.refl _ _).alloc (Nat.le_refl _) _).alloc (by simp) _).alloc (by simp; omega) _
  go_enter Try.func32, Try.ntmps32
  go_wp2_with fail
  refine (lastClosure d 1 g 0 (w.heap.size + 1 + 1) _ (R0.out _ _)).mono ?_
  rintro e w1 ⟨rfl, hr0, hb1⟩
  have hr1 := (R1.out _ _).below hb1 (by omega)
  have hr2 := (R2.out _ _ _ _).below hb1 (by omega)
  have hbel := (hB0.out _ _ _).trans (hb1.mono (by omega))
  have k1 : w1.cell? ⟨w.heap.size, 2, none⟩ = some (.slice a n c) := by rw [hr2.cell]; simp
  clear R0 R1 R2 hB0 hb1 hr2
  go_wp2_with fail
  clear k1
  go_loopw [19] (fun i wr => ∃ k : Nat, k ≤ n ∧ i = .int .i64 k ∧ Row wr (w.heap.size + 1 + 1) 35 #[.int .i32 (lastTo g d f k).1, .int .i64 (lastTo g d f k).2] ∧ Row wr (w.heap.size + 1) 35 #[.int .i32 0, .int .i64 0] ∧ Below w.heap.size w wr) (fun i _ => n - (intOf i).toNat)
  case atStart => exact ⟨0, Nat.zero_le _, rfl, hr0, hr1, hbel⟩
  case round =>
    clear hr0 hr1 hbel
    obtain ⟨k, hk, rfl, hr0, hr1, hbel⟩ := hrel
    by_cases hlt : k < n
    · obtain ⟨b, off, ha, h1, h2⟩ := (hc.below hbel) k hlt
      have hz := hr0.lt
      have R0 : Hid (∀ o : Obj, Row (wr.alloc o) (w.heap.size + 1 + 1) 35 #[.int .i32 (lastTo g d f k).1, .int .i64 (lastTo g d f k).2]) := fun o => hr0.alloc o
      have R1 : Hid (∀ o : Obj, Row (wr.alloc o) (w.heap.size + 1) 35 #[.int .i32 0, .int .i64 0]) := fun o => hr1.alloc o
      have B0 : Hid (∀ o : Obj, Below w.heap.size w (wr.alloc o)) := fun o => hbel.alloc (by omega) o
      subst ha
      clear hr0 hr1 hbel hc
      go_wp2_with fail
      refine (lastClosure (f k) 2 (lastTo g d f k).1 (lastTo g d f k).2 (w.heap.size + 1 + 1) _ (R0.out _)).mono ?_
      rintro e w2 ⟨rfl, hr0, hb2⟩
      have S0 : Hid (Row w2 (w.heap.size + 1 + 1) 35 #[.int .i32 (lastTo g d f (k + 1)).1, .int .i64 (lastTo g d f (k + 1)).2]) := hr0
      have S1 : Hid (Row w2 (w.heap.size + 1) 35 #[.int .i32 0, .int .i64 0]) := (R1.out _).below hb2 (by omega)
      have S2 : Hid (Below w.heap.size w w2) := (B0.out _).trans (hb2.mono (by omega))
      clear hr0 hb2 R0 R1 B0 h1 h2
      go_wp2_with fail
      go_roundw
      case rel => exact ⟨k + 1, by omega, by go_num, S0.out, S1.out, S2.out⟩
      case measure => simp [intOf]; omega
    · obtain rfl : k = n := by omega
      have e0 : wr.cell? ⟨w.heap.size + 1 + 1, 0, none⟩ = some (.int .i32 (lastTo g d f k).1) := by rw [hr0.cell]; simp
      have e1 : wr.cell? ⟨w.heap.size + 1 + 1, 1, none⟩ = some (.int .i64 (lastTo g d f k).2) := by rw [hr0.cell]; simp
      have d0 : wr.cell? ⟨w.heap.size + 1, 0, none⟩ = some (.int .i32 0) := by rw [hr1.cell]; simp
      have d1 : wr.cell? ⟨w.heap.size + 1, 1, none⟩ = some (.int .i64 0) := by rw [hr1.cell]; simp
      have f0 := hr1.free 0
      have f1 := hr1.free 1
      have S2 : Hid (Below w.heap.size w wr) := hbel
      have S3 : Hid (((wr.setCell ⟨w.heap.size + 1, 0, none⟩ (.int .i32 (lastTo g d f k).1)).setCell ⟨w.heap.size + 1, 1, none⟩ (.int .i64 (lastTo g d f k).2)).cell? ⟨w.heap.size + 1, 0, none⟩ = some (.int .i32 (lastTo g d f k).1)) := by
        show _ = _; rw [((hr1.set 0 _).set 1 _).cell]; simp
      have S4 : Hid (((wr.setCell ⟨w.heap.size + 1, 0, none⟩ (.int .i32 (lastTo g d f k).1)).setCell ⟨w.heap.size + 1, 1, none⟩ (.int .i64 (lastTo g d f k).2)).cell? ⟨w.heap.size + 1, 1, none⟩ = some (.int .i64 (lastTo g d f k).2)) := by
        show _ = _; rw [((hr1.set 0 _).set 1 _).cell]; simp
      clear hr0 hbel hc hr1
      go_wp2_with fail
      have s3 := S3.out
      have s4 := S4.out
      refine bodyPost_ret (v := .agg #[.int .i32 (lastTo g d f k).1, .int .i64 (lastTo g d f k).2]) (by simp [results, Try.results32, go_sem, s3, s4]) rfl ⟨rfl, ?_⟩
      exact (S2.out.setCell (by simp) _).setCell (by simp) _
end Go.Proofs.Qxb6604371a
