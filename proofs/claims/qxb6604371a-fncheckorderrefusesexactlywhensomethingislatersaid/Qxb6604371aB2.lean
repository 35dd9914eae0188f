import Derived.Test.Qxb6604371aA8
import Derived.Deep.DeepCutAuto
namespace Go.Proofs.Qxb6604371a
open Go.RowKit

set_option maxRecDepth 100000 in
set_option maxHeartbeats 4000000 in
theorem refuses_walk (d g ed ek : Int) (a1 a2 a3 : Option Addr) (n1 c1 n2 c2 n3 c3 : Nat) (s1 s3 : Nat → ByteArray) (f : Nat → Int) (w : World) (l1 : n1 ≤ maxLen) (l2 : n2 ≤ maxLen) (l3 : n3 ≤ maxLen)
    (h1 : Holds w a1 n1 fun i => .string (s1 i)) (z1 : ∀ i, i < n1 → (s1 i).size ≤ maxLen) (h2 : Holds w a2 n2 fun i => .int .i32 (f i)) (h3 : Holds w a3 n3 fun i => .string (s3 i)) (z3 : ∀ i, i < n3 → (s3 i).size ≤ maxLen)
    (e1 : a1 = none → n1 = 0) (e2 : a2 = none → n2 = 0) (e3 : a3 = none → n3 = 0) :
    Calls Try.prog 4 #[.int .i32 d, .slice a1 n1 c1, .slice a2 n2 c2, .slice a3 n3 c3, .int .i32 g, .int .i32 ed, .int .i64 ek] w fun e w' => e = .returned (.bool true) ∧ Below w.heap.size w w' := by
  have r1 := StrRow.of h1 z1
  have r3 := StrRow.of h3 z3
  have L1 : Hid (n1 ≤ maxLen) := l1
  have L2 : Hid (n2 ≤ maxLen) := l2
  have L3 : Hid (n3 ≤ maxLen) := l3
  unfold maxLen at l1 l2 l3
  clear z1 z3
  go_enter Try.func4, Try.ntmps4
  go_wp2_with fail
  refine (zzBytes14 d g ed ek a1 a2 a3 n1 c1 n2 c2 n3 c3 w L1.out L2.out L3.out r1 r3).mono ?_
  rintro e w' ⟨⟨v, rfl⟩, rfl⟩
  clear L1 L2 L3
  cases v
  · go_wp2_with fail
    go_ret
    exact ⟨rfl, Below.refl _ _⟩
  by_cases b1 : 65536 < n1
  · go_wp2_with fail
    go_ret
    exact ⟨rfl, Below.refl _ _⟩
  by_cases b2 : 65536 < n2
  · go_wp2_with fail
    go_ret
    exact ⟨rfl, Below.refl _ _⟩
  by_cases b3 : 65536 < n3
  · go_wp2_with fail
    go_ret
    exact ⟨rfl, Below.refl _ _⟩
  go_wp2_with fail
  refine (stringsBytes a1 n1 c1 _ (by omega) r1).mono ?_
  rintro e w1 ⟨⟨m1, rfl, m1a, m1b⟩, rfl⟩
  go_wp2_with fail
  refine (stringsBytes a3 n3 c3 _ (by omega) r3).mono ?_
  rintro e w1 ⟨⟨m3, rfl, m3a, m3b⟩, rfl⟩
  clear r1 r3
  by_cases hsum : m1 + 8 * (n2 : Int) + m3 ≤ 1048576
  case neg =>
    go_wp2_with fail
    go_ret
    exact ⟨rfl, Below.refl _ _⟩
  by_cases hne : n3 = n2
  case neg =>
    have hne' : ((n3 : Int) == (n2 : Int)) = false := by simp; omega
    go_wp2_with fail
    go_ret
    exact ⟨rfl, Below.refl _ _⟩
  subst hne
  go_wp2_with fail
  refine (cloneStrs a1 n1 c1 s1 _ (by omega) h1 e1).mono ?_
  rintro e wA ⟨⟨aA, cA, rfl, eA, hA⟩, bA⟩
  have h2' := h2.below bA
  have h3' := h3.below bA
  clear h1 h2 h3 e1
  go_wp2_with fail
  refine (cloneInts a2 _ c2 f _ (by omega) h2' e2).mono ?_
  rintro e wB ⟨⟨aB, cB, rfl, eB, hB⟩, bB⟩
  have h3 := h3'.below bB
  have bW := bA.trans (bB.mono bA.size)
  clear h2' h3' bA bB e2 hA
  go_wp2_with fail
  refine (cloneStrs a3 _ c3 s3 _ (by omega) h3 e3).mono ?_
  rintro e wC ⟨⟨aC, cC, rfl, eC, hC⟩, bC⟩
  have hB' := hB.below bC
  have bW' := bW.trans (bC.mono bW.size)
  clear h3 hB bC bW e3
  go_wp2_with fail
  refine (buildEntry d g aA aB aC n1 cA _ cB cC false f s3 _ (by omega) hB' hC eB).mono ?_
  rintro e wD ⟨⟨aD, cD, rfl, hD⟩, bD⟩
  have hB := hB'.below bD
  have hC' := hC.below bD
  have bW := bW'.trans (bD.mono bW'.size)
  clear hB' hC bW' bD
  rw [srcOf_false, srcOf_false] at hD
  have RD : Hid (∀ (arr : Array Value), Row (wD.alloc (.cells arr 31)) wD.heap.size 31 arr) := fun arr => Row.new _ _ _
  have AD : Hid (∀ o : Obj, Below wD.heap.size wD (wD.alloc o)) := fun o => (Below.refl _ _).alloc (Nat.le_refl _) _
  go_wp2_with fail
  refine (buildEntry d g aA aB aC n1 cA _ cB cC true f s3 _ (by omega) (hB.below (AD.out _)) (hC'.below (AD.out _)) eB).mono ?_
  rintro e wE ⟨⟨aE, cE, rfl, hE⟩, bE⟩
  have rE : Hid (Row wE wD.heap.size 31 #[.int .i32 d, .slice aA n1 cA, .slice aD n3 cD, .int .i32 g, .string ⟨#[]⟩]) := (RD.out _).below bE (by simp)
  have bDE := (AD.out _).trans (bE.mono (by simp))
  have hB' := hB.below bDE
  have hD' := hD.below bDE
  have bW' := bW.trans (bDE.mono bW.size)
  clear hB hC' bW bE hD RD AD bDE
  have RE : Hid (∀ (arr : Array Value), Row (wE.alloc (.cells arr 31)) wE.heap.size 31 arr) := fun arr => Row.new _ _ _
  have SE : Hid (∀ o : Obj, Row (wE.alloc o) wD.heap.size 31 #[.int .i32 d, .slice aA n1 cA, .slice aD n3 cD, .int .i32 g, .string ⟨#[]⟩]) := fun o => rE.out.alloc o
  have AE : Hid (∀ o : Obj, Below wE.heap.size wE (wE.alloc o)) := fun o => (Below.refl _ _).alloc (Nat.le_refl _) _
  have zDE : wD.heap.size < wE.heap.size := rE.out.lt
  clear rE
  go_wp2_with fail
  refine (newEvent' ed ek _).mono ?_
  rintro e wG ⟨rfl, bG⟩
  have r1 : Hid (Row wG wD.heap.size 31 #[.int .i32 d, .slice aA n1 cA, .slice aD n3 cD, .int .i32 g, .string ⟨#[]⟩]) := (SE.out _).below bG (by simp; omega)
  have r2 : Hid (Row wG wE.heap.size 31 #[.int .i32 d, .slice aA n1 cA, .slice aE n3 cE, .int .i32 g, .string ⟨#[]⟩]) := (RE.out _).below bG (by simp)
  have bEG := (AE.out _).trans (bG.mono (by simp))
  have hB := hB'.below bEG
  have hD := hD'.below bEG
  have hE' := hE.below bEG
  have bW := bW'.trans (bEG.mono bW'.size)
  clear hB' hD' hE bW' bG RE SE AE bEG
  obtain ⟨L, K, hL⟩ : ∃ L K, lastTo g d f n3 = (L, K) := ⟨_, _, rfl⟩
  have HL : Hid (lastTo g d f n3 = (L, K)) := hL
  have HL2 : Hid (lastTo g d (fun i => f (srcOf true n3 i)) n3 = (L, K)) := (last_rev g d f n3).trans hL
  clear hL
  have z1 := r1.out.lt
  have z2 := r2.out.lt
  have k0 : wG.cell? ⟨wD.heap.size, 0, none⟩ = some (.int .i32 d) := by rw [r1.out.cell]; simp
  have k1 : wG.cell? ⟨wD.heap.size, 1, none⟩ = some (.slice aA n1 cA) := by rw [r1.out.cell]; simp
  have k2 : wG.cell? ⟨wD.heap.size, 2, none⟩ = some (.slice aD n3 cD) := by rw [r1.out.cell]; simp
  have k3 : wG.cell? ⟨wD.heap.size, 3, none⟩ = some (.int .i32 g) := by rw [r1.out.cell]; simp
  have k4 : wG.cell? ⟨wD.heap.size, 4, none⟩ = some (.string ⟨#[]⟩) := by rw [r1.out.cell]; simp
  have R2 : Hid (∀ o : Obj, Row (wG.alloc o) wE.heap.size 31 #[.int .i32 d, .slice aA n1 cA, .slice aE n3 cE, .int .i32 g, .string ⟨#[]⟩]) := fun o => r2.out.alloc o
  have R3 : Hid (∀ arr : Array Value, Row (wG.alloc (.cells arr 35)) wG.heap.size 35 arr) := fun arr => Row.new _ _ _
  have AG : Hid (∀ o : Obj, Below wG.heap.size wG (wG.alloc o)) := fun o => (Below.refl _ _).alloc (Nat.le_refl _) _
  clear r1 r2
  go_wp2_with fail
  refine (zzCheckOrder d g ed ek aA aD n1 cA n3 cD f s3 _ (by omega) (hD.below (AG.out _)) L K HL.out).mono ?_
  rintro e wH ⟨rfl, bH⟩
  have r2 := (R2.out _).below bH (by simp; omega)
  have r3 := (R3.out _).below bH (by simp)
  have bGH := (AG.out _).trans (bH.mono (by simp))
  have hB' := hB.below bGH
  have hE := hE'.below bGH
  have bW' := bW.trans (bGH.mono bW.size)
  clear hB hD hE' bW bH R2 R3 AG bGH k0 k1 k2 k3 k4
  have k0 : wH.cell? ⟨wE.heap.size, 0, none⟩ = some (.int .i32 d) := by rw [r2.cell]; simp
  have k1 : wH.cell? ⟨wE.heap.size, 1, none⟩ = some (.slice aA n1 cA) := by rw [r2.cell]; simp
  have k2 : wH.cell? ⟨wE.heap.size, 2, none⟩ = some (.slice aE n3 cE) := by rw [r2.cell]; simp
  have k3 : wH.cell? ⟨wE.heap.size, 3, none⟩ = some (.int .i32 g) := by rw [r2.cell]; simp
  have k4 : wH.cell? ⟨wE.heap.size, 4, none⟩ = some (.string ⟨#[]⟩) := by rw [r2.cell]; simp
  have m0 : wH.cell? ⟨wG.heap.size, 0, none⟩ = some (.int .i32 ed) := by rw [r3.cell]; simp
  have m1' : wH.cell? ⟨wG.heap.size, 1, none⟩ = some (.int .i64 ek) := by rw [r3.cell]; simp
  clear r2 r3
  generalize hr : bef ed ek L K = r
  have Hr : Hid (bef ed ek L K = r) := hr
  clear hr
  have HS : Hid (someTo ed ek g d f n3 = r) := (someTo_eq HL.out).trans Hr.out
  cases r
  · as_aux_lemma =>
    unfold outOf
    go_wp2_with fail
    refine (zzCheckOrder d g ed ek aA aE n1 cA n3 cE _ _ _ (by omega) hE L K HL2.out).mono ?_
    rw [Hr.out]
    rintro e wI ⟨rfl, bI⟩
    have hB := hB'.below bI
    have bW := bW'.trans (bI.mono bW'.size)
    clear hB' hE bW' bI k0 k1 k2 k3 k4 m0 m1'
    unfold outOf
    go_upto_region 22 with fail
    go_cut [33] (fun v wx => v = .bool (someTo ed ek g d f 0) ∧ wx = wI)
    case first =>
      as_aux_lemma =>
      cases p1 : bef ed ek g 0
      · cases p2 : bef ed ek d 1
        · go_wp2_with fail
          refine (zzLater g 0 ed ek _).mono ?_
          rw [p1]
          rintro e w' ⟨rfl, rfl⟩
          go_wp2_with fail
          refine (zzLater d 1 ed ek _).mono ?_
          rw [p2]
          rintro e w' ⟨rfl, rfl⟩
          go_wp2_with fail
          go_meet
          case rel => exact ⟨by rw [someTo_zero, p1, p2]; rfl, rfl⟩
        · go_wp2_with fail
          refine (zzLater g 0 ed ek _).mono ?_
          rw [p1]
          rintro e w' ⟨rfl, rfl⟩
          go_wp2_with fail
          refine (zzLater d 1 ed ek _).mono ?_
          rw [p2]
          rintro e w' ⟨rfl, rfl⟩
          go_wp2_with fail
          go_meet
          case rel => exact ⟨by rw [someTo_zero, p1, p2]; rfl, rfl⟩
      · go_wp2_with fail
        refine (zzLater g 0 ed ek _).mono ?_
        rw [p1]
        rintro e w' ⟨rfl, rfl⟩
        go_wp2_with fail
        go_meet
        case rel => exact ⟨by rw [someTo_zero, p1]; rfl, rfl⟩
    case rest =>
      as_aux_lemma =>
      obtain ⟨rfl, rfl⟩ := hcut
      go_wp2_with fail
      go_loop [33, 34] (fun v i => ∃ k : Nat, k ≤ n3 ∧ i = .int .i64 k ∧ v = .bool (someTo ed ek g d f k)) (fun _ i => n3 - (intOf i).toNat)
      case atStart => exact ⟨0, Nat.zero_le _, rfl, rfl⟩
      case round =>
        as_aux_lemma =>
        obtain ⟨k, hk, rfl, rfl⟩ := hrel
        by_cases hlt : k < n3
        · obtain ⟨b, off, ha, hc⟩ := hB k hlt
          subst ha
          clear hB bW eB
          cases p : bef ed ek (f k) 2
          · go_wp2_with fail
            refine (zzLater (f k) 2 ed ek _).mono ?_
            rw [p]
            rintro e w' ⟨rfl, rfl⟩
            go_wp2_with fail
            go_round
            case rel => exact ⟨k + 1, by omega, by go_num, by rw [someTo_succ, p, Bool.or_false]⟩
            case measure => simp [intOf]; omega
          · go_wp2_with fail
            refine (zzLater (f k) 2 ed ek _).mono ?_
            rw [p]
            rintro e w' ⟨rfl, rfl⟩
            go_wp2_with fail
            go_round
            case rel => exact ⟨k + 1, by omega, by go_num, by rw [someTo_succ, p, Bool.or_true]⟩
            case measure => simp [intOf]; omega
        · obtain rfl : k = n3 := by omega
          have hs := HS.out
          go_wp2_with fail
          go_ret
          exact ⟨rfl, bW⟩
  · as_aux_lemma =>
    unfold outOf
    go_wp2_with fail
    refine (zzCheckOrder d g ed ek aA aE n1 cA n3 cE _ _ _ (by omega) hE L K HL2.out).mono ?_
    rw [Hr.out]
    rintro e wI ⟨rfl, bI⟩
    have hB := hB'.below bI
    have bW := bW'.trans (bI.mono bW'.size)
    clear hB' hE bW' bI k0 k1 k2 k3 k4 m0 m1'
    unfold outOf
    go_upto_region 22 with fail
    go_cut [33] (fun v wx => v = .bool (someTo ed ek g d f 0) ∧ wx = wI)
    case first =>
      as_aux_lemma =>
      cases p1 : bef ed ek g 0
      · cases p2 : bef ed ek d 1
        · go_wp2_with fail
          refine (zzLater g 0 ed ek _).mono ?_
          rw [p1]
          rintro e w' ⟨rfl, rfl⟩
          go_wp2_with fail
          refine (zzLater d 1 ed ek _).mono ?_
          rw [p2]
          rintro e w' ⟨rfl, rfl⟩
          go_wp2_with fail
          go_meet
          case rel => exact ⟨by rw [someTo_zero, p1, p2]; rfl, rfl⟩
        · go_wp2_with fail
          refine (zzLater g 0 ed ek _).mono ?_
          rw [p1]
          rintro e w' ⟨rfl, rfl⟩
          go_wp2_with fail
          refine (zzLater d 1 ed ek _).mono ?_
          rw [p2]
          rintro e w' ⟨rfl, rfl⟩
          go_wp2_with fail
          go_meet
          case rel => exact ⟨by rw [someTo_zero, p1, p2]; rfl, rfl⟩
      · go_wp2_with fail
        refine (zzLater g 0 ed ek _).mono ?_
        rw [p1]
        rintro e w' ⟨rfl, rfl⟩
        go_wp2_with fail
        go_meet
        case rel => exact ⟨by rw [someTo_zero, p1]; rfl, rfl⟩
    case rest =>
      as_aux_lemma =>
      obtain ⟨rfl, rfl⟩ := hcut
      go_wp2_with fail
      go_loop [33, 34] (fun v i => ∃ k : Nat, k ≤ n3 ∧ i = .int .i64 k ∧ v = .bool (someTo ed ek g d f k)) (fun _ i => n3 - (intOf i).toNat)
      case atStart => exact ⟨0, Nat.zero_le _, rfl, rfl⟩
      case round =>
        as_aux_lemma =>
        obtain ⟨k, hk, rfl, rfl⟩ := hrel
        by_cases hlt : k < n3
        · obtain ⟨b, off, ha, hc⟩ := hB k hlt
          subst ha
          clear hB bW eB
          cases p : bef ed ek (f k) 2
          · go_wp2_with fail
            refine (zzLater (f k) 2 ed ek _).mono ?_
            rw [p]
            rintro e w' ⟨rfl, rfl⟩
            go_wp2_with fail
            go_round
            case rel => exact ⟨k + 1, by omega, by go_num, by rw [someTo_succ, p, Bool.or_false]⟩
            case measure => simp [intOf]; omega
          · go_wp2_with fail
            refine (zzLater (f k) 2 ed ek _).mono ?_
            rw [p]
            rintro e w' ⟨rfl, rfl⟩
            go_wp2_with fail
            go_round
            case rel => exact ⟨k + 1, by omega, by go_num, by rw [someTo_succ, p, Bool.or_true]⟩
            case measure => simp [intOf]; omega
        · obtain rfl : k = n3 := by omega
          have hs := HS.out
          go_upto_region 34 with fail
          clear hs
          go_cut [35] (fun v wx => v = .bool (recTo L K g d f 0) ∧ wx = wc)
          case first =>
            as_aux_lemma =>
            clear hB bW
            cases p1 : (L == g)
            · cases p3 : (L == d)
              · go_wp2_with fail
                go_meet
                case rel => exact ⟨by rw [recTo_zero, p1, p3]; rfl, rfl⟩
              · cases p4 : (K == 1)
                all_goals
                  go_wp2_with fail
                  go_meet
                  case rel => exact ⟨by rw [recTo_zero, p1, p3, p4]; rfl, rfl⟩
            · cases p2 : (K == 0)
              · cases p3 : (L == d)
                · go_wp2_with fail
                  go_meet
                  case rel => exact ⟨by rw [recTo_zero, p1, p2, p3]; rfl, rfl⟩
                · cases p4 : (K == 1)
                  all_goals
                    go_wp2_with fail
                    go_meet
                    case rel => exact ⟨by rw [recTo_zero, p1, p2, p3, p4]; rfl, rfl⟩
              · go_wp2_with fail
                go_meet
                case rel => exact ⟨by rw [recTo_zero, p1, p2]; rfl, rfl⟩
          case rest =>
            as_aux_lemma =>
            obtain ⟨rfl, rfl⟩ := hcut
            go_wp2_with fail
            go_loop [35, 36] (fun v i => ∃ j : Nat, j ≤ k ∧ i = .int .i64 j ∧ v = .bool (recTo L K g d f j)) (fun _ i => k - (intOf i).toNat)
            case atStart => exact ⟨0, Nat.zero_le _, rfl, rfl⟩
            case round =>
              as_aux_lemma =>
              obtain ⟨j, hj, rfl, rfl⟩ := hrel
              by_cases hlt : j < k
              · obtain ⟨b, off, ha, hc⟩ := hB j hlt
                subst ha
                clear hB bW eB
                cases p : (L == f j)
                · go_wp2_with fail
                  go_round
                  case rel => exact ⟨j + 1, by omega, by go_num, by rw [recTo_succ, p, Bool.false_and, Bool.or_false]⟩
                  case measure => simp [intOf]; omega
                · cases q : (K == 2)
                  · go_wp2_with fail
                    go_round
                    case rel => exact ⟨j + 1, by omega, by go_num, by rw [recTo_succ, p, q, Bool.and_false, Bool.or_false]⟩
                    case measure => simp [intOf]; omega
                  · go_wp2_with fail
                    go_round
                    case rel => exact ⟨j + 1, by omega, by go_num, by rw [recTo_succ, p, q, Bool.and_true, Bool.or_true]⟩
                    case measure => simp [intOf]; omega
              · obtain rfl : j = k := by omega
                have hR := recTo_eq HL.out
                obtain ⟨n1', n2', n3'⟩ := none_after HL.out
                have N1 : Hid (bef L K g 0 = false) := n1'
                have N2 : Hid (bef L K d 1 = false) := n2'
                have N3 : Hid (∀ i, i < j → bef L K (f i) 2 = false) := n3'
                clear n1' n2' n3'
                go_wp2_with fail
                refine (zzLater L K ed ek _).mono ?_
                rw [Hr.out]
                rintro e w' ⟨rfl, rfl⟩
                clear hR
                go_wp2_with fail
                refine (zzLater g 0 L K _).mono ?_
                rw [N1.out]
                rintro e w' ⟨rfl, rfl⟩
                go_wp2_with fail
                refine (zzLater d 1 L K _).mono ?_
                rw [N2.out]
                rintro e w' ⟨rfl, rfl⟩
                go_wp2_with fail
                go_loop [37] (fun i => ∃ t : Nat, t ≤ j ∧ i = .int .i64 t) (fun i => j - (intOf i).toNat)
                case atStart => exact ⟨0, Nat.zero_le _, rfl⟩
                case round =>
                  as_aux_lemma =>
                  obtain ⟨t, ht, rfl⟩ := hrel
                  by_cases hlt : t < j
                  · obtain ⟨b, off, ha, hc⟩ := hB t hlt
                    have N4 : Hid (bef L K (f t) 2 = false) := N3.out t hlt
                    subst ha
                    clear hB bW eB
                    go_wp2_with fail
                    refine (zzLater (f t) 2 L K _).mono ?_
                    rw [N4.out]
                    rintro e w' ⟨rfl, rfl⟩
                    go_wp2_with fail
                    go_round
                    case rel => exact ⟨t + 1, by omega, by go_num⟩
                    case measure => simp [intOf]; omega
                  · clear hB
                    go_wp2_with fail
                    go_ret
                    exact ⟨rfl, bW⟩
end Go.Proofs.Qxb6604371a
