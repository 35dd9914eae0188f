import Derived.Test.Qxb6604371aS2
import Derived.Test.Qxb6604371aA1
import Derived.Deep.DeepCutAuto
namespace Go.Proofs.Qxb6604371a
open Go.RowKit

/-- Go's three-way comparison of two strings, as the law's own helper reckons it. -/
def cmpL (x y : List UInt8) : Int := if Op.bytesLess x y then -1 else if x == y then 0 else 1

theorem cmpL_self (x : List UInt8) : cmpL x x = 0 := by simp [cmpL, less_self]
theorem less_cons (c : UInt8) (x y : List UInt8) : Op.bytesLess (c :: x) (c :: y) = Op.bytesLess x y := by simp [Op.bytesLess]
theorem cmpL_cons (c : UInt8) (x y : List UInt8) : cmpL (c :: x) (c :: y) = cmpL x y := by
  unfold cmpL
  rw [less_cons]
  simp
theorem cmpL_append (p x y : List UInt8) : cmpL (p ++ x) (p ++ y) = cmpL x y := by
  induction p with
  | nil => rfl
  | cons c p ih => rw [List.cons_append, List.cons_append, cmpL_cons, ih]
theorem cmpL_lt {c d : UInt8} (h : c < d) (x y : List UInt8) : cmpL (c :: x) (d :: y) = -1 := by
  unfold cmpL
  simp [Op.bytesLess, h]
theorem cmpL_gt {c d : UInt8} (h : d < c) (x y : List UInt8) : cmpL (c :: x) (d :: y) = 1 := by
  have h1 : ¬ c < d := by simp [UInt8.lt_iff_toNat_lt] at *; omega
  have h2 : (c == d) = false := by
    simp; intro e; subst e; exact absurd h (by simp)
  unfold cmpL
  have h3 : ¬ c = d := by simpa using h2
  simp [Op.bytesLess, h1, h3]

/-- The first 'k' bytes are the same. -/
def Same (s t : ByteArray) (k : Nat) : Prop := s.data.toList.take k = t.data.toList.take k

theorem cut_at (s : ByteArray) (k : Nat) (h : k < s.size) : s.data.toList = s.data.toList.take k ++ s[k] :: s.data.toList.drop (k + 1) := by
  conv => lhs; rw [← List.take_append_drop k s.data.toList]
  rw [List.drop_eq_getElem_cons (by simpa using h)]
  rfl

theorem Same.step {s t : ByteArray} {k : Nat} (h : Same s t k) (hs : k < s.size) (ht : k < t.size) (e : s[k] = t[k]) : Same s t (k + 1) := by
  unfold Same at *
  rw [List.take_add_one, List.take_add_one, h]
  congr 1
  rw [List.getElem?_eq_getElem (by simpa using hs), List.getElem?_eq_getElem (by simpa using ht)]
  exact congrArg (fun x => Option.toList (some x)) e
theorem Same.lt {s t : ByteArray} {k : Nat} (h : Same s t k) (hs : k < s.size) (ht : k < t.size) (e : s[k] < t[k]) : cmpL s.toList t.toList = -1 := by
  rw [ByteArray.toList_eq, ByteArray.toList_eq, cut_at s k hs, cut_at t k ht, h, cmpL_append, cmpL_lt e]
theorem Same.gt {s t : ByteArray} {k : Nat} (h : Same s t k) (hs : k < s.size) (ht : k < t.size) (e : t[k] < s[k]) : cmpL s.toList t.toList = 1 := by
  rw [ByteArray.toList_eq, ByteArray.toList_eq, cut_at s k hs, cut_at t k ht, h, cmpL_append, cmpL_gt e]
theorem Same.short {s t : ByteArray} (h : Same s t s.size) (hl : s.size < t.size) : cmpL s.toList t.toList = -1 := by
  rw [ByteArray.toList_eq, ByteArray.toList_eq, cut_at t _ hl, ← h]
  rw [show s.data.toList.take s.size = s.data.toList from List.take_of_length_le (by simp)]
  conv => lhs; lhs; rw [← List.append_nil s.data.toList]
  rw [cmpL_append]; rfl
theorem Same.long {s t : ByteArray} (h : Same s t t.size) (hl : t.size < s.size) : cmpL s.toList t.toList = 1 := by
  rw [ByteArray.toList_eq, ByteArray.toList_eq, cut_at s _ hl, h]
  rw [show t.data.toList.take t.size = t.data.toList from List.take_of_length_le (by simp)]
  conv => lhs; rhs; rw [← List.append_nil t.data.toList]
  rw [cmpL_append]; rfl
theorem Same.all {s t : ByteArray} (h : Same s t s.size) (hl : s.size = t.size) : cmpL s.toList t.toList = 0 := by
  unfold Same at h
  rw [ByteArray.toList_eq, ByteArray.toList_eq]
  rw [List.take_of_length_le (by simp), List.take_of_length_le (by rw [hl]; simp)] at h
  rw [h, cmpL_self]

theorem OnlyDrew.refl (w : World) : OnlyDrew w w := ⟨0, rfl⟩
theorem OnlyDrew.more {w w' : World} (h : OnlyDrew w w') (q : Nat) : OnlyDrew w (w'.drewN q) := by
  obtain ⟨p, rfl⟩ := h; exact ⟨_, drewN_two _ _ _⟩

set_option maxHeartbeats 1000000 in
theorem cmpStr (s t : ByteArray) (hs : s.size ≤ maxLen) (w : World) :
    Calls Try.prog 30 #[.string s, .string t] w fun e w' => e = .returned (.int .i64 (cmpL s.toList t.toList)) ∧ OnlyDrew w w' := by
  unfold maxLen at hs
  generalize hr : cmpL s.toList t.toList = r
  have R : Hid (cmpL s.toList t.toList = r) := hr
  clear hr
  obtain ⟨m, hm⟩ : ∃ m, m = min s.size t.size := ⟨_, rfl⟩
  have hm1 : m ≤ s.size := by omega
  have hm2 : m ≤ t.size := by omega
  go_enter Try.func30, Try.ntmps30
  go_upto_if 12 with fail
  go_cut [5] (fun v wx => v = .int .i64 m ∧ wx = w)
  case first =>
    by_cases q : t.size < s.size
    · obtain rfl : m = t.size := by omega
      clear hm hm1 hm2
      go_wp2
      go_meet
      case rel => exact ⟨rfl, rfl⟩
    · obtain rfl : m = s.size := by omega
      clear hm hm1 hm2
      go_wp2
      go_meet
      case rel => exact ⟨rfl, rfl⟩
  case rest =>
    obtain ⟨rfl, rfl⟩ := hcut
    have hm3 : m = s.size ∨ m = t.size := by omega
    clear hm
    go_wp2
    go_loopw [6] (fun i wr => ∃ k : Nat, k ≤ m ∧ i = .int .i64 k ∧ Same s t k ∧ OnlyDrew wc wr) (fun i _ => m - (intOf i).toNat)
    case atStart => exact ⟨0, Nat.zero_le _, rfl, rfl, .refl _⟩
    case round =>
      obtain ⟨k, hk, rfl, hS, hD⟩ := hrel
      by_cases hlt : k < m
      · have l1 : k < s.size := by omega
        have l2 : k < t.size := by omega
        have D1 : Hid (∀ p, OnlyDrew wc (wr.drewN p)) := fun p => hD.more p
        have D2 : Hid (∀ p q, OnlyDrew wc ((wr.drewN p).drewN q)) := fun p q => (hD.more p).more q
        clear hD hm3
        by_cases c1 : (s[k].toNat : Int) < t[k].toNat
        · have F : Hid (r = -1) := R.out.symm.trans (hS.lt l1 l2 (UInt8.lt_iff_toNat_lt.2 (by omega)))
          clear hS R
          go_wp2
          go_quiet (fail)
          go_wp2
          go_ret
          exact ⟨by rw [F.out]; rfl, D1.out _⟩
        · by_cases c2 : (t[k].toNat : Int) < s[k].toNat
          · have F : Hid (r = 1) := R.out.symm.trans (hS.gt l1 l2 (UInt8.lt_iff_toNat_lt.2 (by omega)))
            clear hS R
            go_wp2
            go_quiet (fail)
            go_wp2
            go_quiet (fail)
            go_wp2
            go_ret
            exact ⟨by rw [F.out]; rfl, D2.out _ _⟩
          · have F : Hid (Same s t (k + 1)) := hS.step l1 l2 (UInt8.toNat_inj.1 (by omega))
            clear hS R
            go_wp2
            go_quiet (fail)
            go_wp2
            go_quiet (fail)
            go_wp2
            go_roundw
            case rel => exact ⟨k + 1, by omega, by go_num, F.out, D1.out _⟩
            case measure => simp [intOf]; omega
      · obtain rfl : k = m := by omega
        by_cases c1 : s.size < t.size
        · obtain rfl : k = s.size := by omega
          have F : Hid (r = -1) := R.out.symm.trans (hS.short c1)
          clear hS R hm1 hm2 hm3 hk hlt
          go_wp2
          go_ret
          exact ⟨by rw [F.out]; rfl, hD⟩
        · by_cases c2 : t.size < s.size
          · obtain rfl : k = t.size := by omega
            have F : Hid (r = 1) := R.out.symm.trans (hS.long c2)
            clear hS R hm1 hm2 hm3 hk hlt
            go_wp2
            go_ret
            exact ⟨by rw [F.out]; rfl, hD⟩
          · obtain rfl : k = s.size := by omega
            have F : Hid (r = 0) := R.out.symm.trans (hS.all (by omega))
            clear hS R hm1 hm2 hm3 hk hlt
            go_wp2
            go_ret
            exact ⟨by rw [F.out]; rfl, hD⟩

theorem cmpInt (a b : Int) (w : World) :
    Calls Try.prog 31 #[.int .i32 a, .int .i32 b] w fun e w' => e = .returned (.int .i64 (if a < b then -1 else if b < a then 1 else 0)) ∧ w' = w := by
  by_cases c1 : a < b
  · rw [if_pos c1]
    go_enter Try.func31, Try.ntmps31
    go_wp2
    go_ret
    exact ⟨rfl, rfl⟩
  · rw [if_neg c1]
    by_cases c2 : b < a
    · rw [if_pos c2]
      go_enter Try.func31, Try.ntmps31
      go_wp2
      go_ret
      exact ⟨rfl, rfl⟩
    · rw [if_neg c2]
      go_enter Try.func31, Try.ntmps31
      go_wp2
      go_ret
      exact ⟨rfl, rfl⟩
end Go.Proofs.Qxb6604371a
