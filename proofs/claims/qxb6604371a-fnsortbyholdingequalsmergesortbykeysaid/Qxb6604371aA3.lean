import Derived.Test.Qxb6604371aA2
namespace Go.Proofs.Qxb6604371a
open Go.RowKit

theorem newConversion (d : Int) (s : ByteArray) (w : World) :
    Calls Try.prog 24 #[.int .i32 d, .string s] w fun e w' => e = .returned (.agg #[.int .i32 d, .string s]) ∧ w' = w.alloc (.cells #[.int .i32 d, .string s] 58) := by
  go_enter Try.func24, Try.ntmps24
  go_wp2
  exact bodyPost_ret (v := .agg #[.int .i32 d, .string s]) (by simp [results, Try.results24, go_sem]) rfl ⟨rfl, rfl⟩
theorem newEvent (d k : Int) (w : World) :
    Calls Try.prog 12 #[.int .i32 d, .int .i64 k] w fun e w' => e = .returned (.agg #[.int .i32 d, .int .i64 k]) ∧ w' = w.alloc (.cells #[.int .i32 d, .int .i64 k] 35) := by
  go_enter Try.func12, Try.ntmps12
  go_wp2
  exact bodyPost_ret (v := .agg #[.int .i32 d, .int .i64 k]) (by simp [results, Try.results12, go_sem]) rfl ⟨rfl, rfl⟩
theorem newEntry (d g : Int) (a1 a2 : Option Addr) (n1 c1 n2 c2 : Nat) (w : World) :
    Calls Try.prog 25 #[.int .i32 d, .slice a1 n1 c1, .slice a2 n2 c2, .int .i32 g] w fun e w' => e = .returned (.agg #[.int .i32 d, .slice a1 n1 c1, .slice a2 n2 c2, .int .i32 g, .string ⟨#[]⟩]) ∧
      w' = w.alloc (.cells #[.int .i32 d, .slice a1 n1 c1, .slice a2 n2 c2, .int .i32 g, .string ⟨#[]⟩] 31) := by
  go_enter Try.func25, Try.ntmps25
  go_wp2
  exact bodyPost_ret (v := .agg #[.int .i32 d, .slice a1 n1 c1, .slice a2 n2 c2, .int .i32 g, .string ⟨#[]⟩]) (by simp [results, Try.results25, go_sem]) rfl ⟨rfl, rfl⟩

/-- The event (d1, k1) comes before (d2, k2). -/
def bef (d1 k1 d2 k2 : Int) : Bool := decide (d1 < d2 ∨ (d1 = d2 ∧ k1 < k2))

theorem before (d1 k1 d2 k2 : Int) (w : World) :
    Calls Try.prog 33 #[.agg #[.int .i32 d1, .int .i64 k1], .agg #[.int .i32 d2, .int .i64 k2]] w fun e w' => e = .returned (.bool (bef d1 k1 d2 k2)) ∧ w' = (w.alloc (.cells #[.int .i32 d1, .int .i64 k1] 35)).alloc (.cells #[.int .i32 d2, .int .i64 k2] 35) := by
  by_cases h1 : d1 < d2
  · have hb : Hid (bef d1 k1 d2 k2 = true) := by show _ = _; unfold bef; simp [h1]
    go_enter Try.func33, Try.ntmps33
    go_wp2
    go_ret
    exact ⟨by rw [hb.out]; rfl, rfl⟩
  · by_cases h2 : d1 = d2
    · subst h2
      by_cases h3 : k1 < k2
      · have hb : Hid (bef d1 k1 d1 k2 = true) := by show _ = _; unfold bef; simp [h3]
        go_enter Try.func33, Try.ntmps33
        go_wp2
        go_ret
        exact ⟨by rw [hb.out]; rfl, rfl⟩
      · have hb : Hid (bef d1 k1 d1 k2 = false) := by show _ = _; unfold bef; simp; omega
        go_enter Try.func33, Try.ntmps33
        go_wp2
        go_ret
        exact ⟨by rw [hb.out]; rfl, rfl⟩
    · have h2' : (d1 == d2) = false := by simpa using h2
      have hb : Hid (bef d1 k1 d2 k2 = false) := by show _ = _; unfold bef; simp; omega
      clear h2
      go_enter Try.func33, Try.ntmps33
      go_wp2
      go_ret
      exact ⟨by rw [hb.out]; rfl, rfl⟩

/-- The later of two events, the first where neither is. -/
def later (p q : Int × Int) : Int × Int := if bef p.1 p.2 q.1 q.2 then q else p


theorem before' (d1 k1 d2 k2 : Int) (w : World) :
    Calls Try.prog 33 #[.agg #[.int .i32 d1, .int .i64 k1], .agg #[.int .i32 d2, .int .i64 k2]] w fun e w' => e = .returned (.bool (bef d1 k1 d2 k2)) ∧ Below w.heap.size w w' := by
  refine (before d1 k1 d2 k2 w).mono ?_
  rintro e w' ⟨rfl, rfl⟩
  exact ⟨rfl, ((Below.refl _ _).alloc (Nat.le_refl _) _).alloc (by simp) _⟩

set_option maxHeartbeats 400000 in
theorem lastClosure (d k D K : Int) (B : Nat) (W : World) (hrow : Row W B 35 #[.int .i32 D, .int .i64 K]) :
    Calls Try.prog 39 #[.agg #[.int .i32 d, .int .i64 k], .pointer (some ⟨B, 0, none⟩)] W fun e W' => e = .returned (.tuple #[]) ∧ Row W' B 35 #[.int .i32 (later (D, K) (d, k)).1, .int .i64 (later (D, K) (d, k)).2] ∧ Below B W W' := by
  have hB := hrow.lt
  have c0 : W.cell? ⟨B, 0, none⟩ = some (.int .i32 D) := by rw [hrow.cell]; simp
  have c1 : W.cell? ⟨B, 1, none⟩ = some (.int .i64 K) := by rw [hrow.cell]; simp
  have hr1 : Hid (Row (W.alloc (.cells #[.int .i32 d, .int .i64 k] 35)) B 35 #[.int .i32 D, .int .i64 K]) := hrow.alloc _
  have hr2 : Hid (Row (W.alloc (.cells #[.int .i32 d, .int .i64 k] 35)) W.heap.size 35 #[.int .i32 d, .int .i64 k]) := Row.new _ _ _
  have hbw : Hid (Below B W (W.alloc (.cells #[.int .i32 d, .int .i64 k] 35))) := (Below.refl _ _).alloc (by omega) _
  clear hrow
  by_cases hb : bef D K d k = true
  · have hl : Hid (later (D, K) (d, k) = (d, k)) := by show _ = _; simp [later, hb]
    go_enter Try.func39, Try.ntmps39
    go_wp2_with fail
    refine (before' _ _ _ _ _).mono ?_
    rintro e w' ⟨rfl, hbel⟩
    have r1 := hr1.out.below hbel (by simp; omega)
    have r2 := hr2.out.below hbel (by simp)
    have hb2 : Hid (Below B W w') := hbw.out.trans (hbel.mono (by simp; omega))
    have c0' : w'.cell? ⟨B, 0, none⟩ = some (.int .i32 D) := by rw [r1.cell]; simp
    have c1' : w'.cell? ⟨B, 1, none⟩ = some (.int .i64 K) := by rw [r1.cell]; simp
    have e0' : w'.cell? ⟨W.heap.size, 0, none⟩ = some (.int .i32 d) := by rw [r2.cell]; simp
    have e1' : w'.cell? ⟨W.heap.size, 1, none⟩ = some (.int .i64 k) := by rw [r2.cell]; simp
    have f0' := r1.free 0
    have f1' := r1.free 1
    have R : Hid (Row ((w'.setCell ⟨B, 0, none⟩ (.int .i32 d)).setCell ⟨B, 1, none⟩ (.int .i64 k)) B 35 #[.int .i32 d, .int .i64 k]) := by
      show Row _ _ _ _; have := (r1.set 0 (.int .i32 d)).set 1 (.int .i64 k); simpa using this
    clear hbel r1 r2 c0 c1
    go_wp2
    go_end0
    refine ⟨rfl, ?_, (hb2.out.setCell (Nat.le_refl _) _).setCell (Nat.le_refl _) _⟩
    rw [hl.out]
    exact R.out
  · have hb' : bef D K d k = false := by simpa using hb
    have hl : Hid (later (D, K) (d, k) = (D, K)) := by show _ = _; simp [later, hb']
    clear hb
    go_enter Try.func39, Try.ntmps39
    go_wp2_with fail
    refine (before' _ _ _ _ _).mono ?_
    rintro e w' ⟨rfl, hbel⟩
    have r1 : Hid (Row w' B 35 #[.int .i32 D, .int .i64 K]) := hr1.out.below hbel (by simp; omega)
    have hb2 : Hid (Below B W w') := hbw.out.trans (hbel.mono (by simp; omega))
    clear hbel c0 c1
    go_wp2
    go_end0
    refine ⟨rfl, ?_, hb2.out⟩
    rw [hl.out]
    exact r1.out
end Go.Proofs.Qxb6604371a
