import Derived.Test.Qxb6604371aA7
import Derived.Deep.DeepCutAuto
namespace Go.Proofs.Qxb6604371a
open Go.RowKit

/-- The kind of the distribution's date. -/
def kind0 (g L : Int) : Int := if g = L then 0 else -1

theorem wantNo {ed ek L K : Int} (h : bef ed ek L K = false) : (ed = L ∧ ¬ ek < K) ∨ L < ed := by
  have := mt (bef_iff ed ek L K).2 (by simp [h]); omega
theorem wantYes {ed ek L K : Int} (h : bef ed ek L K = true) : (ed = L ∧ ek < K) ∨ ed < L := by
  have := (bef_iff ed ek L K).1 h; omega

set_option maxRecDepth 100000 in
set_option maxHeartbeats 2000000 in
theorem names_walk (d g ed ek : Int) (a1 a2 a3 : Option Addr) (n1 c1 n2 c2 n3 c3 : Nat) (s1 s3 : Nat → ByteArray) (f : Nat → Int) (w : World) (l1 : n1 ≤ maxLen) (l2 : n2 ≤ maxLen) (l3 : n3 ≤ maxLen)
    (h1 : Holds w a1 n1 fun i => .string (s1 i)) (z1 : ∀ i, i < n1 → (s1 i).size ≤ maxLen) (h2 : Holds w a2 n2 fun i => .int .i32 (f i)) (h3 : Holds w a3 n3 fun i => .string (s3 i)) (z3 : ∀ i, i < n3 → (s3 i).size ≤ maxLen)
    (e1 : a1 = none → n1 = 0) (e2 : a2 = none → n2 = 0) (e3 : a3 = none → n3 = 0) :
    Calls Try.prog 3 #[.int .i32 d, .slice a1 n1 c1, .slice a2 n2 c2, .slice a3 n3 c3, .int .i32 g, .int .i32 ed, .int .i64 ek] w fun e w' => e = .returned (.bool true) ∧ Below w.heap.size w w' := by
  have r1 := StrRow.of h1 z1
  have r3 := StrRow.of h3 z3
  have L1 : Hid (n1 ≤ maxLen) := l1
  have L2 : Hid (n2 ≤ maxLen) := l2
  have L3 : Hid (n3 ≤ maxLen) := l3
  unfold maxLen at l1 l2 l3
  clear z1 z3
  go_enter Try.func3, Try.ntmps3
  go_wp2_with fail
  refine (zzBytes7 d g ed ek a1 a2 a3 n1 c1 n2 c2 n3 c3 w L1.out L2.out L3.out r1 r3).mono ?_
  rintro e w' ⟨⟨v, rfl⟩, rfl⟩
  clear L1 L2 L3
  cases v
  · go_wp2_with fail
    go_ret
    exact ⟨rfl, Below.refl _ _⟩
  by_cases b1 : 65536 < n1
  · go_wp2_with fail
    go_ret
    exact ⟨rfl, Below.refl _ _⟩
  by_cases b2 : 65536 < n2
  · go_wp2_with fail
    go_ret
    exact ⟨rfl, Below.refl _ _⟩
  by_cases b3 : 65536 < n3
  · go_wp2_with fail
    go_ret
    exact ⟨rfl, Below.refl _ _⟩
  go_wp2_with fail
  refine (stringsBytes a1 n1 c1 _ (by omega) r1).mono ?_
  rintro e w1 ⟨⟨m1, rfl, m1a, m1b⟩, rfl⟩
  go_wp2_with fail
  refine (stringsBytes a3 n3 c3 _ (by omega) r3).mono ?_
  rintro e w1 ⟨⟨m3, rfl, m3a, m3b⟩, rfl⟩
  clear r1 r3
  by_cases hsum : m1 + 8 * (n2 : Int) + m3 ≤ 1048576
  case neg =>
    go_wp2_with fail
    go_ret
    exact ⟨rfl, Below.refl _ _⟩
  by_cases hne : n3 = n2
  case neg =>
    have hne' : ((n3 : Int) == (n2 : Int)) = false := by simp; omega
    go_wp2_with fail
    go_ret
    exact ⟨rfl, Below.refl _ _⟩
  subst hne
  go_wp2_with fail
  refine (cloneStrs a1 n1 c1 s1 _ (by omega) h1 e1).mono ?_
  rintro e wA ⟨⟨aA, cA, rfl, eA, hA⟩, bA⟩
  have h2' := h2.below bA
  have h3' := h3.below bA
  clear h1 h2 h3 e1
  go_wp2_with fail
  refine (cloneInts a2 _ c2 f _ (by omega) h2' e2).mono ?_
  rintro e wB ⟨⟨aB, cB, rfl, eB, hB⟩, bB⟩
  have h3 := h3'.below bB
  have bW := bA.trans (bB.mono bA.size)
  clear h2' h3' bA bB e2 hA
  go_wp2_with fail
  refine (cloneStrs a3 _ c3 s3 _ (by omega) h3 e3).mono ?_
  rintro e wC ⟨⟨aC, cC, rfl, eC, hC⟩, bC⟩
  have hB' := hB.below bC
  have bW' := bW.trans (bC.mono bW.size)
  clear h3 hB bC bW e3
  go_wp2_with fail
  refine (buildEntry d g aA aB aC n1 cA _ cB cC false f s3 _ (by omega) hB' hC eB).mono ?_
  rintro e wD ⟨⟨aD, cD, rfl, hD⟩, bD⟩
  have hB := hB'.below bD
  have bW := bW'.trans (bD.mono bW'.size)
  clear hB' hC bW' bD
  rw [srcOf_false, srcOf_false] at hD
  have RD : Hid (∀ (arr : Array Value), Row (wD.alloc (.cells arr 31)) wD.heap.size 31 arr) := fun arr => Row.new _ _ _
  go_wp2_with fail
  refine (newEvent' ed ek _).mono ?_
  rintro e wE ⟨rfl, bE⟩
  have rE := (RD.out _).below bE (by simp)
  have bDE : Below wD.heap.size wD wE := ((Below.refl _ _).alloc (Nat.le_refl _) _).trans (bE.mono (by simp))
  have hB' := hB.below bDE
  have hD' := hD.below bDE
  have bW' := bW.trans (bDE.mono bW.size)
  have zE := rE.lt
  have k0 : wE.cell? ⟨wD.heap.size, 0, none⟩ = some (.int .i32 d) := by rw [rE.cell]; simp
  have k1 : wE.cell? ⟨wD.heap.size, 1, none⟩ = some (.slice aA n1 cA) := by rw [rE.cell]; simp
  have k2 : wE.cell? ⟨wD.heap.size, 2, none⟩ = some (.slice aD n3 cD) := by rw [rE.cell]; simp
  have k3 : wE.cell? ⟨wD.heap.size, 3, none⟩ = some (.int .i32 g) := by rw [rE.cell]; simp
  have k4 : wE.cell? ⟨wD.heap.size, 4, none⟩ = some (.string ⟨#[]⟩) := by rw [rE.cell]; simp
  clear RD bE rE bDE hB hD bW
  have cE : Hid (∀ o : Obj, Convs (wE.alloc o) aD n3 f s3) := fun o => hD'.below ((Below.refl _ _).alloc (Nat.le_refl _) _)
  have dE : Hid (∀ o : Obj, Below wE.heap.size wE (wE.alloc o)) := fun o => (Below.refl _ _).alloc (Nat.le_refl _) _
  have sE : Hid (wE.heap.size ≤ wE.heap.size) := Nat.le_refl _
  clear hD'
  go_wp2_with fail
  refine (zzCheckOrder d g ed ek aA aD n1 cA n3 cD f s3 _ (by omega) (cE.out _) _ _ (lastTo_eq g d f n3)).mono ?_
  rintro e wF ⟨rfl, bF⟩
  have bEF := (dE.out _).trans (bF.mono (by simp))
  have hB := hB'.below bEF
  have bW := bW'.trans (bEF.mono bW'.size)
  clear cE dE sE bF bEF hB' bW' k0 k1 k2 k3 k4 zE
  generalize hr : bef ed ek (latTo g d f n3) (kindTo g d f (latTo g d f n3) n3) = r
  have Hr : Hid (bef ed ek (latTo g d f n3) (kindTo g d f (latTo g d f n3) n3) = r) := hr
  clear hr
  cases r
  · unfold outOf
    go_upto_if 93 with fail
    go_cut [23] (fun v wx => v = .int .i32 (latTo g d f 0) ∧ wx = wF)
    case first =>
      by_cases q : g < d
      · go_wp2
        go_meet
        case rel => exact ⟨by rw [latTo_zero, if_pos (by omega)], rfl⟩
      · go_wp2
        go_meet
        case rel => exact ⟨by rw [latTo_zero, if_neg (by omega)], rfl⟩
    case rest =>
      obtain ⟨rfl, rfl⟩ := hcut
      go_wp2_with fail
      go_loop [23, 24] (fun v i => ∃ k : Nat, k ≤ n3 ∧ i = .int .i64 k ∧ v = .int .i32 (latTo g d f k)) (fun _ i => n3 - (intOf i).toNat)
      case atStart => exact ⟨0, Nat.zero_le _, rfl, rfl⟩
      case round =>
        obtain ⟨k, hk, rfl, rfl⟩ := hrel
        by_cases hlt : k < n3
        · obtain ⟨b, off, ha, hc⟩ := hB k hlt
          subst ha
          clear hB bW eB
          by_cases q : latTo g d f k < f k
          · go_wp2
            go_round
            case rel => exact ⟨k + 1, by omega, by go_num, by rw [latTo_succ, if_pos (by omega)]⟩
            case measure => simp [intOf]; omega
          · go_wp2
            go_round
            case rel => exact ⟨k + 1, by omega, by go_num, by rw [latTo_succ, if_neg (by omega)]⟩
            case measure => simp [intOf]; omega
        · obtain rfl : k = n3 := by omega
          go_upto_if 113 with fail
          go_cut [25] (fun v wx => v = .int .i64 (kind0 g (latTo g d f k)) ∧ wx = wc)
          case first =>
            cases q : (g == latTo g d f k)
            · go_wp2
              go_meet
              case rel => exact ⟨by rw [kind0, if_neg (by simpa using q)], rfl⟩
            · go_wp2
              go_meet
              case rel => exact ⟨by rw [kind0, if_pos (by simpa using q)], rfl⟩
          case rest =>
            obtain ⟨rfl, rfl⟩ := hcut
            go_upto_if 116 with fail
            go_cut [25] (fun v wx => v = .int .i64 (kindTo g d f (latTo g d f k) 0) ∧ wx = wc)
            case first =>
              cases q : (d == latTo g d f k)
              · go_wp2
                go_meet
                case rel => exact ⟨by rw [kindTo_zero, if_neg (by simpa using q)]; rfl, rfl⟩
              · go_wp2
                go_meet
                case rel => exact ⟨by rw [kindTo_zero, if_pos (by simpa using q)], rfl⟩
            case rest =>
              obtain ⟨rfl, rfl⟩ := hcut
              go_wp2_with fail
              go_loop [25, 26] (fun v i => ∃ j : Nat, j ≤ k ∧ i = .int .i64 j ∧ v = .int .i64 (kindTo g d f (latTo g d f k) j)) (fun _ i => k - (intOf i).toNat)
              case atStart => exact ⟨0, Nat.zero_le _, rfl, rfl⟩
              case round =>
                obtain ⟨j, hj, rfl, rfl⟩ := hrel
                by_cases hlt : j < k
                · obtain ⟨b, off, ha, hc⟩ := hB j hlt
                  subst ha
                  clear hB bW eB
                  cases q : (f j == latTo g d f k)
                  · go_wp2
                    go_round
                    case rel => exact ⟨j + 1, by omega, by go_num, by rw [kindTo_succ, if_neg (by simpa using q)]⟩
                    case measure => simp [intOf]; omega
                  · go_wp2
                    go_round
                    case rel => exact ⟨j + 1, by omega, by go_num, by rw [kindTo_succ, if_pos (by simpa using q)]⟩
                    case measure => simp [intOf]; omega
                · obtain rfl : j = k := by omega
                  clear hB
                  rcases wantNo Hr.out with ⟨q1, q2⟩ | q1
                  · have q3 : (ed == latTo g d f j) = true := by simpa using q1
                    have q4 : ¬ ed < latTo g d f j := by omega
                    clear q1
                    go_wp2
                    go_ret
                    exact ⟨rfl, bW⟩
                  · have q3 : (ed == latTo g d f j) = false := by simp; omega
                    have q4 : ¬ ed < latTo g d f j := by omega
                    go_wp2
                    go_ret
                    exact ⟨rfl, bW⟩
  · unfold outOf
    go_upto_if 93 with fail
    go_cut [23] (fun v wx => v = .int .i32 (latTo g d f 0) ∧ wx = wF)
    case first =>
      by_cases q : g < d
      · go_wp2
        go_meet
        case rel => exact ⟨by rw [latTo_zero, if_pos (by omega)], rfl⟩
      · go_wp2
        go_meet
        case rel => exact ⟨by rw [latTo_zero, if_neg (by omega)], rfl⟩
    case rest =>
      obtain ⟨rfl, rfl⟩ := hcut
      go_wp2_with fail
      go_loop [23, 24] (fun v i => ∃ k : Nat, k ≤ n3 ∧ i = .int .i64 k ∧ v = .int .i32 (latTo g d f k)) (fun _ i => n3 - (intOf i).toNat)
      case atStart => exact ⟨0, Nat.zero_le _, rfl, rfl⟩
      case round =>
        obtain ⟨k, hk, rfl, rfl⟩ := hrel
        by_cases hlt : k < n3
        · obtain ⟨b, off, ha, hc⟩ := hB k hlt
          subst ha
          clear hB bW eB
          by_cases q : latTo g d f k < f k
          · go_wp2
            go_round
            case rel => exact ⟨k + 1, by omega, by go_num, by rw [latTo_succ, if_pos (by omega)]⟩
            case measure => simp [intOf]; omega
          · go_wp2
            go_round
            case rel => exact ⟨k + 1, by omega, by go_num, by rw [latTo_succ, if_neg (by omega)]⟩
            case measure => simp [intOf]; omega
        · obtain rfl : k = n3 := by omega
          go_upto_if 113 with fail
          go_cut [25] (fun v wx => v = .int .i64 (kind0 g (latTo g d f k)) ∧ wx = wc)
          case first =>
            cases q : (g == latTo g d f k)
            · go_wp2
              go_meet
              case rel => exact ⟨by rw [kind0, if_neg (by simpa using q)], rfl⟩
            · go_wp2
              go_meet
              case rel => exact ⟨by rw [kind0, if_pos (by simpa using q)], rfl⟩
          case rest =>
            obtain ⟨rfl, rfl⟩ := hcut
            go_upto_if 116 with fail
            go_cut [25] (fun v wx => v = .int .i64 (kindTo g d f (latTo g d f k) 0) ∧ wx = wc)
            case first =>
              cases q : (d == latTo g d f k)
              · go_wp2
                go_meet
                case rel => exact ⟨by rw [kindTo_zero, if_neg (by simpa using q)]; rfl, rfl⟩
              · go_wp2
                go_meet
                case rel => exact ⟨by rw [kindTo_zero, if_pos (by simpa using q)], rfl⟩
            case rest =>
              obtain ⟨rfl, rfl⟩ := hcut
              go_wp2_with fail
              go_loop [25, 26] (fun v i => ∃ j : Nat, j ≤ k ∧ i = .int .i64 j ∧ v = .int .i64 (kindTo g d f (latTo g d f k) j)) (fun _ i => k - (intOf i).toNat)
              case atStart => exact ⟨0, Nat.zero_le _, rfl, rfl⟩
              case round =>
                obtain ⟨j, hj, rfl, rfl⟩ := hrel
                by_cases hlt : j < k
                · obtain ⟨b, off, ha, hc⟩ := hB j hlt
                  subst ha
                  clear hB bW eB
                  cases q : (f j == latTo g d f k)
                  · go_wp2
                    go_round
                    case rel => exact ⟨j + 1, by omega, by go_num, by rw [kindTo_succ, if_neg (by simpa using q)]⟩
                    case measure => simp [intOf]; omega
                  · go_wp2
                    go_round
                    case rel => exact ⟨j + 1, by omega, by go_num, by rw [kindTo_succ, if_pos (by simpa using q)]⟩
                    case measure => simp [intOf]; omega
                · obtain rfl : j = k := by omega
                  clear hB
                  rcases wantYes Hr.out with ⟨q1, q2⟩ | q1
                  · have q3 : (ed == latTo g d f j) = true := by simpa using q1
                    have q4 : ¬ ed < latTo g d f j := by omega
                    clear q1
                    go_wp2
                    go_ret
                    exact ⟨rfl, bW⟩
                  · go_wp2
                    go_ret
                    exact ⟨rfl, bW⟩
end Go.Proofs.Qxb6604371a
