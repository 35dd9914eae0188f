import Derived.Test.Qxb6604371aA1
namespace Go.Proofs.Qxb6604371a
open Go.RowKit

set_option maxHeartbeats 1000000 in
theorem zzBytes21 (a1 a2 a3 a4 : Option Addr) (n1 c1 n2 c2 n3 c3 n4 c4 : Nat) (w : World) (l1 : n1 ≤ maxLen) (l2 : n2 ≤ maxLen) (l3 : n3 ≤ maxLen) (l4 : n4 ≤ maxLen) (s1 : StrRow w a1 n1) (s2 : StrRow w a2 n2) (s3 : StrRow w a3 n3) :
    Calls Try.prog 21 #[.slice a1 n1 c1, .slice a2 n2 c2, .slice a3 n3 c3, .slice a4 n4 c4] w fun e w' => IsBool e ∧ w' = w := by
  unfold maxLen at l1 l2 l3 l4
  go_enter Try.func21, Try.ntmps21
  go_wp2
  all_goals first | (go_ret; exact ⟨IsBool.mk rfl, rfl⟩) | skip
  go_loop [9, 10] (fun t i => ∃ k : Nat, k ≤ n1 ∧ i = .int .i64 k ∧ ∃ m : Int, 0 ≤ m ∧ m ≤ 1048576 ∧ t = .int .i64 m) (fun _ i => n1 - (intOf i).toNat)
  case atStart => exact ⟨0, Nat.zero_le _, rfl, _, by omega, by omega, rfl⟩
  case round =>
    obtain ⟨k, hk, rfl, m, hm0, hm1, rfl⟩ := hrel
    by_cases hlt : k < n1
    · obtain ⟨b, off, s, ha, hc, hz⟩ := s1 k hlt
      unfold maxLen at hz
      subst ha
      clear s1 s2 s3
      by_cases h1 : (s.size : Int) ≤ 1048576
      · by_cases h2 : m + (s.size : Int) ≤ 1048576
        · go_wp2
          go_round
          case rel => exact ⟨k + 1, by omega, by go_num, m + s.size, by omega, by omega, rfl⟩
          case measure => simp [intOf]; omega
        · go_wp2
          go_ret
          exact ⟨IsBool.mk rfl, rfl⟩
      · go_wp2
        go_ret
        exact ⟨IsBool.mk rfl, rfl⟩
    · go_wp2
      all_goals first | (go_ret; exact ⟨IsBool.mk rfl, rfl⟩) | skip
      go_loop [9, 11] (fun t i => ∃ k : Nat, k ≤ n2 ∧ i = .int .i64 k ∧ ∃ m : Int, 0 ≤ m ∧ m ≤ 1048576 ∧ t = .int .i64 m) (fun _ i => n2 - (intOf i).toNat)
      case atStart => exact ⟨0, Nat.zero_le _, rfl, _, by omega, by omega, rfl⟩
      case round =>
        obtain ⟨k, hk, rfl, m, hm0, hm1, rfl⟩ := hrel
        by_cases hlt : k < n2
        · obtain ⟨b, off, s, ha, hc, hz⟩ := s2 k hlt
          unfold maxLen at hz
          subst ha
          clear s1 s2 s3
          by_cases h1 : (s.size : Int) ≤ 1048576
          · by_cases h2 : m + (s.size : Int) ≤ 1048576
            · go_wp2
              go_round
              case rel => exact ⟨k + 1, by omega, by go_num, m + s.size, by omega, by omega, rfl⟩
              case measure => simp [intOf]; omega
            · go_wp2
              go_ret
              exact ⟨IsBool.mk rfl, rfl⟩
          · go_wp2
            go_ret
            exact ⟨IsBool.mk rfl, rfl⟩
        · go_wp2
          all_goals first | (go_ret; exact ⟨IsBool.mk rfl, rfl⟩) | skip
          go_loop [9, 12] (fun t i => ∃ k : Nat, k ≤ n3 ∧ i = .int .i64 k ∧ ∃ m : Int, 0 ≤ m ∧ m ≤ 1048576 ∧ t = .int .i64 m) (fun _ i => n3 - (intOf i).toNat)
          case atStart => exact ⟨0, Nat.zero_le _, rfl, _, by omega, by omega, rfl⟩
          case round =>
            obtain ⟨k, hk, rfl, m, hm0, hm1, rfl⟩ := hrel
            by_cases hlt : k < n3
            · obtain ⟨b, off, s, ha, hc, hz⟩ := s3 k hlt
              unfold maxLen at hz
              subst ha
              clear s1 s2 s3
              by_cases h1 : (s.size : Int) ≤ 1048576
              · by_cases h2 : m + (s.size : Int) ≤ 1048576
                · go_wp2
                  go_round
                  case rel => exact ⟨k + 1, by omega, by go_num, m + s.size, by omega, by omega, rfl⟩
                  case measure => simp [intOf]; omega
                · go_wp2
                  go_ret
                  exact ⟨IsBool.mk rfl, rfl⟩
              · go_wp2
                go_ret
                exact ⟨IsBool.mk rfl, rfl⟩
            · go_wp2
              all_goals (go_ret; exact ⟨IsBool.mk rfl, rfl⟩)

set_option maxHeartbeats 1000000 in
theorem zzBytes16 (a1 a2 a3 a4 : Option Addr) (n1 c1 n2 c2 n3 c3 n4 c4 : Nat) (w : World) (l1 : n1 ≤ maxLen) (l2 : n2 ≤ maxLen) (l3 : n3 ≤ maxLen) (l4 : n4 ≤ maxLen) (s1 : StrRow w a1 n1) (s2 : StrRow w a2 n2) (s3 : StrRow w a3 n3) :
    Calls Try.prog 16 #[.slice a1 n1 c1, .slice a2 n2 c2, .slice a3 n3 c3, .slice a4 n4 c4] w fun e w' => IsBool e ∧ w' = w := by
  unfold maxLen at l1 l2 l3 l4
  go_enter Try.func16, Try.ntmps16
  go_wp2
  all_goals first | (go_ret; exact ⟨IsBool.mk rfl, rfl⟩) | skip
  go_loop [9, 10] (fun t i => ∃ k : Nat, k ≤ n1 ∧ i = .int .i64 k ∧ ∃ m : Int, 0 ≤ m ∧ m ≤ 1048576 ∧ t = .int .i64 m) (fun _ i => n1 - (intOf i).toNat)
  case atStart => exact ⟨0, Nat.zero_le _, rfl, _, by omega, by omega, rfl⟩
  case round =>
    obtain ⟨k, hk, rfl, m, hm0, hm1, rfl⟩ := hrel
    by_cases hlt : k < n1
    · obtain ⟨b, off, s, ha, hc, hz⟩ := s1 k hlt
      unfold maxLen at hz
      subst ha
      clear s1 s2 s3
      by_cases h1 : (s.size : Int) ≤ 1048576
      · by_cases h2 : m + (s.size : Int) ≤ 1048576
        · go_wp2
          go_round
          case rel => exact ⟨k + 1, by omega, by go_num, m + s.size, by omega, by omega, rfl⟩
          case measure => simp [intOf]; omega
        · go_wp2
          go_ret
          exact ⟨IsBool.mk rfl, rfl⟩
      · go_wp2
        go_ret
        exact ⟨IsBool.mk rfl, rfl⟩
    · go_wp2
      all_goals first | (go_ret; exact ⟨IsBool.mk rfl, rfl⟩) | skip
      go_loop [9, 11] (fun t i => ∃ k : Nat, k ≤ n2 ∧ i = .int .i64 k ∧ ∃ m : Int, 0 ≤ m ∧ m ≤ 1048576 ∧ t = .int .i64 m) (fun _ i => n2 - (intOf i).toNat)
      case atStart => exact ⟨0, Nat.zero_le _, rfl, _, by omega, by omega, rfl⟩
      case round =>
        obtain ⟨k, hk, rfl, m, hm0, hm1, rfl⟩ := hrel
        by_cases hlt : k < n2
        · obtain ⟨b, off, s, ha, hc, hz⟩ := s2 k hlt
          unfold maxLen at hz
          subst ha
          clear s1 s2 s3
          by_cases h1 : (s.size : Int) ≤ 1048576
          · by_cases h2 : m + (s.size : Int) ≤ 1048576
            · go_wp2
              go_round
              case rel => exact ⟨k + 1, by omega, by go_num, m + s.size, by omega, by omega, rfl⟩
              case measure => simp [intOf]; omega
            · go_wp2
              go_ret
              exact ⟨IsBool.mk rfl, rfl⟩
          · go_wp2
            go_ret
            exact ⟨IsBool.mk rfl, rfl⟩
        · go_wp2
          all_goals first | (go_ret; exact ⟨IsBool.mk rfl, rfl⟩) | skip
          go_loop [9, 12] (fun t i => ∃ k : Nat, k ≤ n3 ∧ i = .int .i64 k ∧ ∃ m : Int, 0 ≤ m ∧ m ≤ 1048576 ∧ t = .int .i64 m) (fun _ i => n3 - (intOf i).toNat)
          case atStart => exact ⟨0, Nat.zero_le _, rfl, _, by omega, by omega, rfl⟩
          case round =>
            obtain ⟨k, hk, rfl, m, hm0, hm1, rfl⟩ := hrel
            by_cases hlt : k < n3
            · obtain ⟨b, off, s, ha, hc, hz⟩ := s3 k hlt
              unfold maxLen at hz
              subst ha
              clear s1 s2 s3
              by_cases h1 : (s.size : Int) ≤ 1048576
              · by_cases h2 : m + (s.size : Int) ≤ 1048576
                · go_wp2
                  go_round
                  case rel => exact ⟨k + 1, by omega, by go_num, m + s.size, by omega, by omega, rfl⟩
                  case measure => simp [intOf]; omega
                · go_wp2
                  go_ret
                  exact ⟨IsBool.mk rfl, rfl⟩
              · go_wp2
                go_ret
                exact ⟨IsBool.mk rfl, rfl⟩
            · go_wp2
              all_goals (go_ret; exact ⟨IsBool.mk rfl, rfl⟩)

end Go.Proofs.Qxb6604371a
