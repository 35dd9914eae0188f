import Derived.Test.Qxb6605611aProg
import Derived.Test.Qxb6605611aLaw
import Derived.WalkSpells
namespace Go.Proofs.Qxb6605611a
open Go.RowKit

/-- The ending is 'returned a bool'. -/
def IsBool (e : Ending) : Prop := ∃ v : Bool, e = .returned (.bool v)
theorem IsBool.mk {e : Ending} {v : Bool} (h : e = .returned (.bool v)) : IsBool e := ⟨v, h⟩

/-- Every byte at a place below 'k' is other than the space. -/
def noSp (s : ByteArray) : Bool := s.data.toList.all (fun c => c != 32)
/-- Every byte lies above the space. -/
def abSp (s : ByteArray) : Bool := s.data.toList.all (fun c => decide (32 < c))

theorem listPrefix (s : ByteArray) (hs : s.size ≤ 262144) (w : World) :
    Calls Try.prog 13 #[.string s] w fun e w' => e = .returned (.string (s ++ ⟨#[32]⟩)) ∧ w' = w := by
  go_enter Try.func13, Try.ntmps13
  go_wp2
  go_ret
  exact ⟨rfl, rfl⟩

/-- 'hasPrefix', on the bytes. -/
def pre (s p : ByteArray) : Bool := decide (p.size ≤ s.size) && ((s.extract 0 p.size).toList == p.toList)

theorem hasPrefix (s p : ByteArray) (w : World) :
    Calls Try.prog 14 #[.string s, .string p] w fun e w' => e = .returned (.bool (pre s p)) ∧ w' = w := by
  by_cases h : p.size ≤ s.size
  · have H : Hid (pre s p = ((s.extract 0 p.size).toList == p.toList)) := by show _ = _; simp [pre, h]
    go_enter Try.func14, Try.ntmps14
    go_wp2
    go_ret
    exact ⟨by rw [H.out]; rfl, rfl⟩
  · have H : Hid (pre s p = false) := by show _ = _; simp [pre, h]
    go_enter Try.func14, Try.ntmps14
    go_wp2
    go_ret
    exact ⟨by rw [H.out]; rfl, rfl⟩

theorem cmpStr (s p : ByteArray) (w : World) :
    Calls Try.prog 17 #[.string s, .string p] w fun e w' => e = .returned (.int .i64 (cmpL s.toList p.toList)) ∧ w' = w := by
  cases h1 : Op.bytesLess s.toList p.toList
  · cases h2 : (s.toList == p.toList)
    · have H : Hid (cmpL s.toList p.toList = 1) := by show _ = _; simp [cmpL, h1, h2]
      go_enter Try.func17, Try.ntmps17
      go_wp2
      go_ret
      exact ⟨by rw [H.out]; rfl, rfl⟩
    · have H : Hid (cmpL s.toList p.toList = 0) := by show _ = _; simp [cmpL, h1, h2]
      go_enter Try.func17, Try.ntmps17
      go_wp2
      go_ret
      exact ⟨by rw [H.out]; rfl, rfl⟩
  · have H : Hid (cmpL s.toList p.toList = -1) := by show _ = _; simp [cmpL, h1]
    go_enter Try.func17, Try.ntmps17
    go_wp2
    go_ret
    exact ⟨by rw [H.out]; rfl, rfl⟩

/-- Every byte below place 'k' has the mark 'p'. -/
def UpTo (p : UInt8 → Bool) (s : ByteArray) (k : Nat) : Prop := ∀ j (h : j < s.size), j < k → p s[j] = true

theorem upTo_step {p : UInt8 → Bool} {s : ByteArray} {k : Nat} (h : UpTo p s k) (hk : k < s.size) (hp : p s[k] = true) : UpTo p s (k + 1) := by
  intro j hj hjk
  by_cases e : j = k
  · subst e; exact hp
  · exact h j hj (by omega)
theorem upTo_done {p : UInt8 → Bool} {s : ByteArray} {k : Nat} (h : UpTo p s k) (hk : ¬ k < s.size) : s.data.toList.all p = true := by
  rw [List.all_eq_true]
  intro c hc
  obtain ⟨j, hj, rfl⟩ := List.getElem_of_mem hc
  have hj' : j < s.size := by simpa using hj
  exact h j hj' (by omega)
theorem upTo_hit {p : UInt8 → Bool} {s : ByteArray} {k : Nat} (hk : k < s.size) (hp : p s[k] = false) : s.data.toList.all p = false := by
  rw [List.all_eq_false]
  refine ⟨s[k], ?_, by simp [hp]⟩
  exact List.getElem_mem (l := s.data.toList) (n := k) (by simpa using hk)

set_option maxHeartbeats 400000 in
theorem hasSpace (s : ByteArray) (hs : s.size ≤ 262144) (w : World) :
    Calls Try.prog 12 #[.string s] w fun e w' => e = .returned (.bool (!noSp s)) ∧ w' = w := by
  go_enter Try.func12, Try.ntmps12
  go_wp2
  go_loop [3] (fun i => ∃ k : Nat, k ≤ s.size ∧ i = .int .i64 k ∧ UpTo (fun c => c != 32) s k) (fun i => s.size - (intOf i).toNat)
  case atStart => exact ⟨0, Nat.zero_le _, rfl, fun j _ hj => absurd hj (Nat.not_lt_zero _)⟩
  case round =>
    obtain ⟨k, hk, rfl, hf⟩ := hrel
    by_cases hlt : k < s.size
    · cases q : ((s[k].toNat : Int) == 32)
      · have F : Hid (UpTo (fun c => c != 32) s (k + 1)) := upTo_step hf hlt (by simp [← UInt8.toNat_inj] at q ⊢; omega)
        clear hf
        go_wp2
        go_round
        case rel => exact ⟨k + 1, by omega, by go_num, F.out⟩
        case measure => simp [intOf]; omega
      · have F : Hid (noSp s = false) := upTo_hit hlt (by simp [← UInt8.toNat_inj] at q ⊢; omega)
        clear hf
        go_wp2
        go_ret
        exact ⟨by rw [F.out]; rfl, rfl⟩
    · have F : Hid (noSp s = true) := upTo_done hf hlt
      clear hf
      go_wp2
      go_ret
      exact ⟨by rw [F.out]; rfl, rfl⟩

set_option maxHeartbeats 400000 in
theorem allAbove (s : ByteArray) (hs : s.size ≤ 262144) (w : World) :
    Calls Try.prog 16 #[.string s] w fun e w' => e = .returned (.bool (abSp s)) ∧ w' = w := by
  go_enter Try.func16, Try.ntmps16
  go_wp2
  go_loop [3] (fun i => ∃ k : Nat, k ≤ s.size ∧ i = .int .i64 k ∧ UpTo (fun c => decide (32 < c)) s k) (fun i => s.size - (intOf i).toNat)
  case atStart => exact ⟨0, Nat.zero_le _, rfl, fun j _ hj => absurd hj (Nat.not_lt_zero _)⟩
  case round =>
    obtain ⟨k, hk, rfl, hf⟩ := hrel
    by_cases hlt : k < s.size
    · by_cases q : (s[k].toNat : Int) ≤ 32
      · have F : Hid (abSp s = false) := upTo_hit hlt (by simp [UInt8.lt_iff_toNat_lt]; omega)
        clear hf
        go_wp2
        go_ret
        exact ⟨by rw [F.out]; rfl, rfl⟩
      · have F : Hid (UpTo (fun c => decide (32 < c)) s (k + 1)) := upTo_step hf hlt (by simp [UInt8.lt_iff_toNat_lt]; omega)
        clear hf
        go_wp2
        go_round
        case rel => exact ⟨k + 1, by omega, by go_num, F.out⟩
        case measure => simp [intOf]; omega
    · have F : Hid (abSp s = true) := upTo_done hf hlt
      clear hf
      go_wp2
      go_ret
      exact ⟨by rw [F.out]; rfl, rfl⟩

theorem bytes11 (a b c : ByteArray) (ha : a.size ≤ maxLen) (hb : b.size ≤ maxLen) (hc : c.size ≤ maxLen) (w : World) :
    Calls Try.prog 11 #[.string a, .string b, .string c] w fun e w' => IsBool e ∧ w' = w := by
  unfold maxLen at ha hb hc
  go_enter Try.func11, Try.ntmps11
  go_wp2
  all_goals (go_ret; exact ⟨IsBool.mk rfl, rfl⟩)

theorem bytes15 (a b c d : ByteArray) (ha : a.size ≤ maxLen) (hb : b.size ≤ maxLen) (hc : c.size ≤ maxLen) (hd : d.size ≤ maxLen) (w : World) :
    Calls Try.prog 15 #[.string a, .string b, .string c, .string d] w fun e w' => IsBool e ∧ w' = w := by
  unfold maxLen at ha hb hc hd
  go_enter Try.func15, Try.ntmps15
  go_wp2
  all_goals (go_ret; exact ⟨IsBool.mk rfl, rfl⟩)
end Go.Proofs.Qxb6605611a
