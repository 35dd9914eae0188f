import Derived.Test.Qxb6604371aProg
import Derived.WalkKit
import Derived.WalkSpells
namespace Go.Proofs.Qxb6604371a
open Go.RowKit

/-- What a walk is told of a slice of strings: each of its first 'n' places is a cell that holds a string. -/
def StrRow (w : World) (a : Option Addr) (n : Nat) : Prop :=
  ∀ i, i < n → ∃ b off s, a = some ⟨b, off, none⟩ ∧ w.cell? ⟨b, off + i, none⟩ = some (.string s) ∧ s.size ≤ maxLen

/-- The ending is 'returned a bool'. -/
def IsBool (e : Ending) : Prop := ∃ v : Bool, e = .returned (.bool v)
theorem IsBool.mk {e : Ending} {v : Bool} (h : e = .returned (.bool v)) : IsBool e := ⟨v, h⟩

set_option maxHeartbeats 400000 in
theorem stringsBytes (a : Option Addr) (n c : Nat) (w : World) (hn : n ≤ 65536) (hs : StrRow w a n) :
    Calls Try.prog 8 #[.slice a n c] w fun e w' => (∃ m : Int, e = .returned (.int .i64 m) ∧ 0 ≤ m ∧ m ≤ 1048577) ∧ w' = w := by
  go_enter Try.func8, Try.ntmps8
  go_wp2
  go_loop [3, 4] (fun t i => ∃ k : Nat, k ≤ n ∧ i = .int .i64 k ∧ ∃ m : Int, 0 ≤ m ∧ m ≤ 1048576 ∧ t = .int .i64 m) (fun _ i => n - (intOf i).toNat)
  case atStart => exact ⟨0, Nat.zero_le _, rfl, 8 * n, by omega, by omega, rfl⟩
  case round =>
    obtain ⟨k, hk, rfl, m, hm0, hm1, rfl⟩ := hrel
    by_cases hlt : k < n
    · obtain ⟨b, off, s, ha, hc, hz⟩ := hs k hlt
      unfold maxLen at hz
      subst ha
      clear hs
      by_cases h1 : (s.size : Int) ≤ 1048576
      · by_cases h2 : m + (s.size : Int) ≤ 1048576
        · go_wp2
          go_round
          case rel => exact ⟨k + 1, by omega, by go_num, m + s.size, by omega, by omega, rfl⟩
          case measure => simp [intOf]; omega
        · go_wp2
          go_ret
          exact ⟨⟨_, rfl, by omega, by omega⟩, rfl⟩
      · go_wp2
        go_ret
        exact ⟨⟨_, rfl, by omega, by omega⟩, rfl⟩
    · go_wp2
      go_ret
      exact ⟨⟨_, rfl, by omega, by omega⟩, rfl⟩

set_option maxHeartbeats 1000000 in
theorem zzBytes7 (d g e0 : Int) (ek : Int) (a1 a2 a3 : Option Addr) (n1 c1 n2 c2 n3 c3 : Nat) (w : World) (l1 : n1 ≤ maxLen) (l2 : n2 ≤ maxLen) (l3 : n3 ≤ maxLen) (s1 : StrRow w a1 n1) (s3 : StrRow w a3 n3) :
    Calls Try.prog 7 #[.int .i32 d, .slice a1 n1 c1, .slice a2 n2 c2, .slice a3 n3 c3, .int .i32 g, .int .i32 e0, .int .i64 ek] w fun e w' => IsBool e ∧ w' = w := by
  unfold maxLen at l1 l2 l3
  go_enter Try.func7, Try.ntmps7
  go_wp2
  all_goals first | (go_ret; exact ⟨IsBool.mk rfl, rfl⟩) | skip
  go_loop [15, 16] (fun t i => ∃ k : Nat, k ≤ n1 ∧ i = .int .i64 k ∧ ∃ m : Int, 0 ≤ m ∧ m ≤ 1048576 ∧ t = .int .i64 m) (fun _ i => n1 - (intOf i).toNat)
  case atStart => exact ⟨0, Nat.zero_le _, rfl, n1, by omega, by omega, rfl⟩
  case round =>
    obtain ⟨k, hk, rfl, m, hm0, hm1, rfl⟩ := hrel
    by_cases hlt : k < n1
    · obtain ⟨b, off, s, ha, hc, hz⟩ := s1 k hlt
      unfold maxLen at hz
      subst ha
      clear s1 s3
      by_cases h1 : (s.size : Int) ≤ 1048576
      · by_cases h2 : m + (s.size : Int) ≤ 1048576
        · go_wp2
          go_round
          case rel => exact ⟨k + 1, by omega, by go_num, m + s.size, by omega, by omega, rfl⟩
          case measure => simp [intOf]; omega
        · go_wp2
          go_ret
          exact ⟨IsBool.mk rfl, rfl⟩
      · go_wp2
        go_ret
        exact ⟨IsBool.mk rfl, rfl⟩
    · go_wp2
      all_goals first | (go_ret; exact ⟨IsBool.mk rfl, rfl⟩) | skip
      go_loop [15, 17] (fun t i => ∃ k : Nat, k ≤ n3 ∧ i = .int .i64 k ∧ ∃ m : Int, 0 ≤ m ∧ m ≤ 1048576 ∧ t = .int .i64 m) (fun _ i => n3 - (intOf i).toNat)
      case atStart => exact ⟨0, Nat.zero_le _, rfl, _, by omega, by omega, rfl⟩
      case round =>
        obtain ⟨k, hk, rfl, m, hm0, hm1, rfl⟩ := hrel
        by_cases hlt : k < n3
        · obtain ⟨b, off, s, ha, hc, hz⟩ := s3 k hlt
          unfold maxLen at hz
          subst ha
          clear s1 s3
          by_cases h1 : (s.size : Int) ≤ 1048576
          · by_cases h2 : m + (s.size : Int) ≤ 1048576
            · go_wp2
              go_round
              case rel => exact ⟨k + 1, by omega, by go_num, m + s.size, by omega, by omega, rfl⟩
              case measure => simp [intOf]; omega
            · go_wp2
              go_ret
              exact ⟨IsBool.mk rfl, rfl⟩
          · go_wp2
            go_ret
            exact ⟨IsBool.mk rfl, rfl⟩
        · go_wp2
          go_ret
          exact ⟨IsBool.mk rfl, rfl⟩

set_option maxHeartbeats 1000000 in
theorem zzBytes14 (d g e0 : Int) (ek : Int) (a1 a2 a3 : Option Addr) (n1 c1 n2 c2 n3 c3 : Nat) (w : World) (l1 : n1 ≤ maxLen) (l2 : n2 ≤ maxLen) (l3 : n3 ≤ maxLen) (s1 : StrRow w a1 n1) (s3 : StrRow w a3 n3) :
    Calls Try.prog 14 #[.int .i32 d, .slice a1 n1 c1, .slice a2 n2 c2, .slice a3 n3 c3, .int .i32 g, .int .i32 e0, .int .i64 ek] w fun e w' => IsBool e ∧ w' = w := by
  unfold maxLen at l1 l2 l3
  go_enter Try.func14, Try.ntmps14
  go_wp2
  all_goals first | (go_ret; exact ⟨IsBool.mk rfl, rfl⟩) | skip
  go_loop [15, 16] (fun t i => ∃ k : Nat, k ≤ n1 ∧ i = .int .i64 k ∧ ∃ m : Int, 0 ≤ m ∧ m ≤ 1048576 ∧ t = .int .i64 m) (fun _ i => n1 - (intOf i).toNat)
  case atStart => exact ⟨0, Nat.zero_le _, rfl, n1, by omega, by omega, rfl⟩
  case round =>
    obtain ⟨k, hk, rfl, m, hm0, hm1, rfl⟩ := hrel
    by_cases hlt : k < n1
    · obtain ⟨b, off, s, ha, hc, hz⟩ := s1 k hlt
      unfold maxLen at hz
      subst ha
      clear s1 s3
      by_cases h1 : (s.size : Int) ≤ 1048576
      · by_cases h2 : m + (s.size : Int) ≤ 1048576
        · go_wp2
          go_round
          case rel => exact ⟨k + 1, by omega, by go_num, m + s.size, by omega, by omega, rfl⟩
          case measure => simp [intOf]; omega
        · go_wp2
          go_ret
          exact ⟨IsBool.mk rfl, rfl⟩
      · go_wp2
        go_ret
        exact ⟨IsBool.mk rfl, rfl⟩
    · go_wp2
      all_goals first | (go_ret; exact ⟨IsBool.mk rfl, rfl⟩) | skip
      go_loop [15, 17] (fun t i => ∃ k : Nat, k ≤ n3 ∧ i = .int .i64 k ∧ ∃ m : Int, 0 ≤ m ∧ m ≤ 1048576 ∧ t = .int .i64 m) (fun _ i => n3 - (intOf i).toNat)
      case atStart => exact ⟨0, Nat.zero_le _, rfl, _, by omega, by omega, rfl⟩
      case round =>
        obtain ⟨k, hk, rfl, m, hm0, hm1, rfl⟩ := hrel
        by_cases hlt : k < n3
        · obtain ⟨b, off, s, ha, hc, hz⟩ := s3 k hlt
          unfold maxLen at hz
          subst ha
          clear s1 s3
          by_cases h1 : (s.size : Int) ≤ 1048576
          · by_cases h2 : m + (s.size : Int) ≤ 1048576
            · go_wp2
              go_round
              case rel => exact ⟨k + 1, by omega, by go_num, m + s.size, by omega, by omega, rfl⟩
              case measure => simp [intOf]; omega
            · go_wp2
              go_ret
              exact ⟨IsBool.mk rfl, rfl⟩
          · go_wp2
            go_ret
            exact ⟨IsBool.mk rfl, rfl⟩
        · go_wp2
          go_ret
          exact ⟨IsBool.mk rfl, rfl⟩
end Go.Proofs.Qxb6604371a
