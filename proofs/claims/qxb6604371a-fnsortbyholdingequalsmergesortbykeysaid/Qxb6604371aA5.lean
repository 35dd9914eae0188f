import Derived.Test.Qxb6604371aA4
import Derived.Deep.QuietTactic
import Derived.BigQuiet
import Derived.WalkSmall
namespace Go.Proofs.Qxb6604371a
open Go.RowKit

/-- The call handed back an '*OrderError' that holds the two events. -/
def GotErr (e : Ending) (w' : World) (ed ek ld lk : Int) : Prop := ∃ B, e = .returned (.iface 64 (.pointer (some ⟨B, 0, none⟩))) ∧ Row w' B 67 #[.int .i32 ed, .int .i64 ek, .int .i32 ld, .int .i64 lk]

set_option maxHeartbeats 400000 in
theorem checkOrder_no (d g ed ek : Int) (a1 a : Option Addr) (n1 c1 n c : Nat) (f : Nat → Int) (h : Nat → ByteArray) (w : World) (hn : n ≤ 65536) (hc : Convs w a n f h) (hb : bef ed ek (lastTo g d f n).1 (lastTo g d f n).2 = false) :
    Calls Try.prog 26 #[.agg #[.int .i32 d, .slice a1 n1 c1, .slice a n c, .int .i32 g, .string ⟨#[]⟩], .agg #[.int .i32 ed, .int .i64 ek]] w fun e w' => e = .returned .nilIface ∧ Below w.heap.size w w' := by
  have hB0 : Hid (∀ (o1 o2 : Obj), Below w.heap.size w ((w.alloc o1).alloc o2)) := fun o1 o2 => ((Below.refl _ _).alloc (Nat.le_refl _) _).alloc (by simp) _
  have hR0 : Hid (∀ (o1 : Obj), Row ((w.alloc o1).alloc (.cells #[.int .i32 ed, .int .i64 ek] 35)) (w.heap.size + 1) 35 #[.int .i32 ed, .int .i64 ek]) := fun o1 => by
    have := Row.new (w.alloc o1) 35 #[.int .i32 ed, .int .i64 ek]; simpa using this
  go_enter Try.func26, Try.ntmps26
  go_wp2_with fail
  refine (lastEvent d g a1 a n1 c1 n c f h _ hn (hc.below (hB0.out _ _))).mono ?_
  rintro e w1 ⟨rfl, hb1⟩
  have r1 := (hR0.out _).below hb1 (by simp)
  have B1 := (hB0.out _ _).trans (hb1.mono (by simp; omega))
  have z1 := r1.lt
  have k0 : w1.cell? ⟨w.heap.size + 1, 0, none⟩ = some (.int .i32 ed) := by rw [r1.cell]; simp
  have k1 : w1.cell? ⟨w.heap.size + 1, 1, none⟩ = some (.int .i64 ek) := by rw [r1.cell]; simp
  clear hb1 hR0 hB0 hc
  go_wp2_with fail
  refine (before' _ _ _ _ _).mono ?_
  rintro e w2 ⟨rfl, hb2⟩
  have B2 := (B1.alloc (by omega) _).trans (hb2.mono (by simp; omega))
  clear hb2 B1 r1 k0 k1
  go_wp2_with fail
  go_ret
  exact ⟨rfl, B2⟩

set_option maxHeartbeats 400000 in
theorem checkOrder_yes (d g ed ek : Int) (a1 a : Option Addr) (n1 c1 n c : Nat) (f : Nat → Int) (h : Nat → ByteArray) (w : World) (hn : n ≤ 65536) (hc : Convs w a n f h) (hb : bef ed ek (lastTo g d f n).1 (lastTo g d f n).2 = true) :
    Calls Try.prog 26 #[.agg #[.int .i32 d, .slice a1 n1 c1, .slice a n c, .int .i32 g, .string ⟨#[]⟩], .agg #[.int .i32 ed, .int .i64 ek]] w fun e w' => GotErr e w' ed ek (lastTo g d f n).1 (lastTo g d f n).2 ∧ Below w.heap.size w w' := by
  have hB0 : Hid (∀ (o1 o2 : Obj), Below w.heap.size w ((w.alloc o1).alloc o2)) := fun o1 o2 => ((Below.refl _ _).alloc (Nat.le_refl _) _).alloc (by simp) _
  have hR0 : Hid (∀ (o1 : Obj), Row ((w.alloc o1).alloc (.cells #[.int .i32 ed, .int .i64 ek] 35)) (w.heap.size + 1) 35 #[.int .i32 ed, .int .i64 ek]) := fun o1 => by
    have := Row.new (w.alloc o1) 35 #[.int .i32 ed, .int .i64 ek]; simpa using this
  go_enter Try.func26, Try.ntmps26
  go_wp2_with fail
  refine (lastEvent d g a1 a n1 c1 n c f h _ hn (hc.below (hB0.out _ _))).mono ?_
  rintro e w1 ⟨rfl, hb1⟩
  have r1 := (hR0.out _).below hb1 (by simp)
  have B1 := (hB0.out _ _).trans (hb1.mono (by simp; omega))
  have z1 := r1.lt
  have k0 : w1.cell? ⟨w.heap.size + 1, 0, none⟩ = some (.int .i32 ed) := by rw [r1.cell]; simp
  have k1 : w1.cell? ⟨w.heap.size + 1, 1, none⟩ = some (.int .i64 ek) := by rw [r1.cell]; simp
  clear hb1 hR0 hB0 hc
  have R1 : Hid (∀ o : Obj, Row (w1.alloc o) (w.heap.size + 1) 35 #[.int .i32 ed, .int .i64 ek]) := fun o => r1.alloc o
  have R2 : Hid (Row (w1.alloc (.cells #[.int .i32 (lastTo g d f n).1, .int .i64 (lastTo g d f n).2] 35)) w1.heap.size 35 #[.int .i32 (lastTo g d f n).1, .int .i64 (lastTo g d f n).2]) := Row.new _ _ _
  go_wp2_with fail
  refine (before' _ _ _ _ _).mono ?_
  rintro e w2 ⟨rfl, hb2⟩
  have s1 := (R1.out _).below hb2 (by simp; omega)
  have s2 := R2.out.below hb2 (by simp)
  have B2 := (B1.alloc (by omega) _).trans (hb2.mono (by simp; omega))
  have z2 := s1.lt
  have m0 : w2.cell? ⟨w.heap.size + 1, 0, none⟩ = some (.int .i32 ed) := by rw [s1.cell]; simp
  have m1 : w2.cell? ⟨w.heap.size + 1, 1, none⟩ = some (.int .i64 ek) := by rw [s1.cell]; simp
  have m2 : w2.cell? ⟨w1.heap.size, 0, none⟩ = some (.int .i32 (lastTo g d f n).1) := by rw [s2.cell]; simp
  have m3 : w2.cell? ⟨w1.heap.size, 1, none⟩ = some (.int .i64 (lastTo g d f n).2) := by rw [s2.cell]; simp
  clear hb2 B1 r1 k0 k1 R1 R2 s1 s2
  go_wp2_with fail
  go_ret
  refine ⟨⟨w2.heap.size, rfl, ?_⟩, B2.alloc (by omega) _⟩
  exact Row.new _ _ _

theorem assert64 (W : World) (v : Value) : (Instr.typeAssert (.iface 64 v) 62 64 true).run Try.prog W = .ok (.tuple #[v, .bool true]) W := by kernel_rfl

set_option maxHeartbeats 400000 in
theorem zzCheckOrder_no (d g ed ek : Int) (a1 a : Option Addr) (n1 c1 n c : Nat) (f : Nat → Int) (h : Nat → ByteArray) (w : World) (hn : n ≤ 65536) (hc : Convs w a n f h) (hb : bef ed ek (lastTo g d f n).1 (lastTo g d f n).2 = false) :
    Calls Try.prog 13 #[.agg #[.int .i32 d, .slice a1 n1 c1, .slice a n c, .int .i32 g, .string ⟨#[]⟩], .agg #[.int .i32 ed, .int .i64 ek]] w fun e w' =>
      e = .returned (.tuple #[.bool false, .bool false, .int .i32 0, .int .i64 0, .int .i32 0, .int .i64 0]) ∧ Below w.heap.size w w' := by
  have hB0 : Hid (∀ (o1 o2 : Obj), Below w.heap.size w ((w.alloc o1).alloc o2)) := fun o1 o2 => ((Below.refl _ _).alloc (Nat.le_refl _) _).alloc (by simp) _
  go_enter Try.func13, Try.ntmps13
  go_wp2_with fail
  refine (checkOrder_no d g ed ek a1 a n1 c1 n c f h _ hn (hc.below (hB0.out _ _)) hb).mono ?_
  rintro e w1 ⟨rfl, hb1⟩
  have B1 := (hB0.out _ _).trans (hb1.mono (by simp; omega))
  clear hb1 hB0 hc hb
  go_wp2_with fail
  exact bodyPost_ret (v := .tuple #[.bool false, .bool false, .int .i32 0, .int .i64 0, .int .i32 0, .int .i64 0]) (by simp [results, Try.results13, go_sem]) rfl ⟨rfl, B1⟩

set_option maxHeartbeats 400000 in
theorem zzCheckOrder_yes (d g ed ek : Int) (a1 a : Option Addr) (n1 c1 n c : Nat) (f : Nat → Int) (h : Nat → ByteArray) (w : World) (hn : n ≤ 65536) (hc : Convs w a n f h) (hb : bef ed ek (lastTo g d f n).1 (lastTo g d f n).2 = true) :
    Calls Try.prog 13 #[.agg #[.int .i32 d, .slice a1 n1 c1, .slice a n c, .int .i32 g, .string ⟨#[]⟩], .agg #[.int .i32 ed, .int .i64 ek]] w fun e w' =>
      e = .returned (.tuple #[.bool true, .bool true, .int .i32 ed, .int .i64 ek, .int .i32 (lastTo g d f n).1, .int .i64 (lastTo g d f n).2]) ∧ Below w.heap.size w w' := by
  have hB0 : Hid (∀ (o1 o2 : Obj), Below w.heap.size w ((w.alloc o1).alloc o2)) := fun o1 o2 => ((Below.refl _ _).alloc (Nat.le_refl _) _).alloc (by simp) _
  go_enter Try.func13, Try.ntmps13
  go_wp2_with fail
  refine (checkOrder_yes d g ed ek a1 a n1 c1 n c f h _ hn (hc.below (hB0.out _ _)) hb).mono ?_
  rintro e w1 ⟨⟨B, rfl, hr⟩, hb1⟩
  have B1 := (hB0.out _ _).trans (hb1.mono (by simp; omega))
  have k0 : w1.cell? ⟨B, 0, none⟩ = some (.int .i32 ed) := by rw [hr.cell]; simp
  have k1 : w1.cell? ⟨B, 1, none⟩ = some (.int .i64 ek) := by rw [hr.cell]; simp
  have k2 : w1.cell? ⟨B, 2, none⟩ = some (.int .i32 (lastTo g d f n).1) := by rw [hr.cell]; simp
  have k3 : w1.cell? ⟨B, 3, none⟩ = some (.int .i64 (lastTo g d f n).2) := by rw [hr.cell]; simp
  clear hb1 hB0 hc hb hr
  have ht := fun W => assert64 W (.pointer (some ⟨B, 0, none⟩))
  go_wp2_with fail
  go_quiet (fail)
  go_wp2_with fail
  refine bodyPost_ret (v := .tuple #[.bool true, .bool true, .int .i32 ed, .int .i64 ek, .int .i32 (lastTo g d f n).1, .int .i64 (lastTo g d f n).2]) (by simp [results, Try.results13, go_sem]) rfl ⟨rfl, ?_⟩
  exact below_drewN B1 _
end Go.Proofs.Qxb6604371a
