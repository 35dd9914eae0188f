import Derived.Test.Qxb6605628aRA6
namespace Go.Proofs.Qxb6605628aR
open Go.RowKit

/-- What holds of the two encoders after 'k' bits. -/
def Both (w wr : World) (A B : Nat) (s : St) : Prop := ∃ va vb, EncS wr w.heap.size A s va ∧ EncS wr w.heap.size B s vb ∧ Apart va vb ∧ Below w.heap.size w wr

/-- Two worlds that part in what was drawn alone. -/
def Same (w w' : World) : Prop := w'.heap = w.heap ∧ w'.os = w.os ∧ w'.tape = w.tape ∧ w'.output = w.output
theorem Same.refl (w : World) : Same w w := ⟨rfl, rfl, rfl, rfl⟩
theorem Same.drewN {w w' : World} (h : Same w w') (n : Nat) : Same w (w'.drewN n) := h
theorem Same.row {w w' : World} {B : Nat} {t : TypeId} {arr : Array Value} (h : Same w w') (hr : Row w B t arr) : Row w' B t arr := by unfold Row; rw [h.1]; exact hr
theorem Same.enc {w w' : World} {base B : Nat} {s : St} {v : Value} (h : Same w w') (hE : EncS w base B s v) : EncS w' base B s v := by
  refine ⟨h.row hE.row, ⟨hE.own.1, ?_⟩, hE.ge⟩
  rw [h.1]; exact hE.own.2
theorem Same.below {w w' a : World} {B : Nat} (h : Same w w') (hb : Below B a w) : Below B a w' := ⟨h.2.1.trans hb.os, h.2.2.1.trans hb.tape, h.2.2.2.trans hb.output, by rw [h.1]; exact hb.size, fun k hk => by rw [h.1]; exact hb.block k hk⟩
theorem Same.holds {w w' : World} {a : Option Addr} {n : Nat} {f : Nat → Value} (h : Same w w') (hh : Holds w a n f) : Holds w' a n f := by
  intro i hi
  obtain ⟨b, off, e, hc⟩ := hh i hi
  refine ⟨b, off, e, ?_⟩
  rw [← hc]
  exact World.cell?_of_block (by rw [h.1])

theorem half_step {w wr wz : World} {A B : Nat} {s s1 s2 t : St} {va vb va' : Value} (hA : EncS wr w.heap.size A s va) (hB : EncS wr w.heap.size B t vb) (hap : Apart va vb) (hbel : Below w.heap.size w wr) (hne : A ≠ B) (hE : EncS wz w.heap.size A s1 va') (hO : Only wr wz A va va') (hs : s2 = s1) :
    ∃ va', EncS wz w.heap.size A s2 va' ∧ EncS wz w.heap.size B t vb ∧ Apart va' vb ∧ Below w.heap.size w wz := by
  subst hs
  obtain ⟨h1, h2⟩ := EncS.keep hA hB hO hne hap
  exact ⟨va', hE, h1, h2, hbel.trans (hO.below hA.ge (fun k hk => (hA.own.lt k hk).1) hbel.size)⟩

set_option maxRecDepth 100000 in
set_option maxHeartbeats 2000000 in
theorem walk (x0 x1 x2 x3 : Int) (a4 a5 : Option Addr) (n4 c4 n5 c5 : Nat) (f4 : Nat → Int) (P Q : Nat → Int) (w : World) (l4 : n4 ≤ maxLen) (l5 : n5 ≤ maxLen) (h4 : Holds w a4 n4 fun i => .int .u8 (f4 i)) (e4 : a4 = none → n4 = 0) (h5 : Bits w a5 n5 P Q) :
    Calls Try.prog 6 #[.int .u64 x0, .int .u32 x1, .int .u8 x2, .int .i64 x3, .slice a4 n4 c4, .slice a5 n5 c5] w fun e w' => e = .returned (.bool true) ∧ Below w.heap.size w w' := by
  have L4 : Hid (n4 ≤ maxLen) := l4
  have L5 : Hid (n5 ≤ maxLen) := l5
  unfold maxLen at l4 l5
  go_enter Try.func6, Try.ntmps6
  go_wp2_with fail
  refine (bytes33 x0 x1 x2 x3 a4 a5 n4 c4 n5 c5 w L4.out L5.out).mono ?_
  rintro e w' ⟨⟨v, rfl⟩, rfl⟩
  clear L4 L5
  cases v
  · go_wp2_with fail
    go_ret
    exact ⟨rfl, Below.refl _ _⟩
  by_cases b4 : 65536 < n4
  · go_wp2_with fail
    go_ret
    exact ⟨rfl, Below.refl _ _⟩
  by_cases b5 : 4096 < n5
  · go_wp2_with fail
    go_ret
    exact ⟨rfl, Below.refl _ _⟩
  go_wp2_with fail
  go_loop [13] (fun i => ∃ k : Nat, k ≤ n5 ∧ i = .int .i64 k ∧ InRange P k) (fun i => n5 - (intOf i).toNat)
  case atStart => exact ⟨0, Nat.zero_le _, rfl, fun i hi => absurd hi (Nat.not_lt_zero _)⟩
  case round =>
    obtain ⟨k, hk, rfl, hI⟩ := hrel
    by_cases hlt : k < n5
    · obtain ⟨b, off, ha, hc, _⟩ := h5 k hlt
      subst ha
      clear h4 h5 e4
      by_cases q1 : P k < 31
      · go_wp2
        go_ret
        exact ⟨rfl, Below.refl _ _⟩
      · by_cases q2 : 2017 < P k
        · go_wp2
          go_ret
          exact ⟨rfl, Below.refl _ _⟩
        · have HI : Hid (InRange P (k + 1)) := hI.step (by omega) (by omega)
          clear hI
          go_wp2
          go_round
          case rel => exact ⟨k + 1, by omega, by go_num, HI.out⟩
          case measure => simp [intOf]; omega
    · obtain rfl : k = n5 := by omega
      have HI : Hid (InRange P k) := hI
      clear hI
      go_wp2_with fail
      refine (cloneBytes a4 n4 c4 f4 _ (by omega) h4 e4).mono ?_
      rintro e wA ⟨⟨aA, nA, cA, xA, rfl, oA⟩, bA⟩
      clear h4 e4
      have zA : w'.heap.size ≤ wA.heap.size := bA.size
      go_wp2_with fail
      refine (newEncoder x0 x1 x2 x3 aA nA cA _).mono ?_
      rintro e wB ⟨rfl, hwB⟩
      have rB : Hid (Row wB wA.heap.size 79 (cellsE x0 x1 x2 x3 (.slice aA nA cA))) := by rw [hwB]; exact Row.new _ _ _
      have oB : Hid (wB.ownsRow w'.heap.size 5 1 (.slice aA nA cA) nA xA) := by rw [hwB]; exact oA.alloc _
      have bB : Hid (Below w'.heap.size w' wB) := by rw [hwB]; exact bA.alloc zA _
      have zB : wA.heap.size < wB.heap.size := by rw [hwB]; simp
      clear hwB oA bA
      go_wp2_with fail
      refine (newEncoder 0 0 0 0 none 0 0 _).mono ?_
      rintro e wC ⟨rfl, hwC⟩
      have rC : Hid (Row wC wB.heap.size 79 (cellsE 0 0 0 0 (.slice none 0 0))) := by rw [hwC]; exact Row.new _ _ _
      have rC' : Hid (Row wC wA.heap.size 79 (cellsE x0 x1 x2 x3 (.slice aA nA cA))) := by rw [hwC]; exact rB.out.alloc _
      have oC : Hid (wC.ownsRow w'.heap.size 5 1 (.slice aA nA cA) nA xA) := by rw [hwC]; exact oB.out.alloc _
      have bC : Hid (Below w'.heap.size w' wC) := by rw [hwC]; exact bB.out.alloc (by omega) _
      clear hwC rB oB bB
      go_wp2_with fail
      refine (reset w'.heap.size wA.heap.size x0 x1 x2 x3 _ nA xA _ rC'.out oC.out zA).mono ?_
      rintro e wD ⟨rfl, va, hE, hO⟩
      have rD : Hid (Row wD wB.heap.size 79 (cellsE 0 0 0 0 (.slice none 0 0))) := hO.row rC.out (by omega) (row_ne_own oC.out rC.out (by decide))
      have bD : Hid (Below w'.heap.size w' wD) := bC.out.trans (hO.below zA (fun k hk => (oC.out.lt k hk).1) (by have := bC.out.size; omega))
      have HE : Hid (EncS wD w'.heap.size wA.heap.size St0 va) := hE
      clear hE hO rC rC' oC bC
      go_wp2_with fail
      refine (reset w'.heap.size wB.heap.size 0 0 0 0 _ 0 [] _ rD.out (World.ownsRow_nil _ _ _ _) (by omega)).mono ?_
      rintro e wE ⟨rfl, vb, hE, hO⟩
      have hb0 : EncS wD w'.heap.size wB.heap.size ⟨0, 0, 0, 0, []⟩ (.slice none 0 0) := ⟨rD.out, World.ownsRow_nil _ _ _ _, by omega⟩
      obtain ⟨hA, hap⟩ := EncS.keep hb0 HE.out hO (by omega) (fun g _ => by simp [Value.ownBlock])
      have HB : Hid (Both w' wE wA.heap.size wB.heap.size (runTo P Q 0)) := ⟨va, vb, hA, hE, hap.symm, bD.out.trans (hO.below (by omega) (fun k hk => by simp [Value.ownBlock] at hk) (by have := bD.out.size; omega))⟩
      have hne : wA.heap.size ≠ wB.heap.size := by omega
      clear hE hO hb0 hA hap HE rD bD va vb
      generalize wA.heap.size = A at *
      generalize wB.heap.size = B at *
      clear zA zB
      have g0 := (good_run HI.out 0 (by omega) : Good 0 (runTo P Q 0)).rng0
      obtain ⟨va, vb, hA, hB, hap, hbel⟩ := id HB.out
      clear hap hbel
      go_wp2_with fail
      refine (getRng w'.heap.size A (runTo P Q 0) va _ hA).mono ?_
      rintro e w1 ⟨rfl, rfl⟩
      go_wp2_with fail
      refine (getRng w'.heap.size B (runTo P Q 0) vb _ hB).mono ?_
      rintro e w2 ⟨rfl, rfl⟩
      clear hA hB va vb
      go_wp2_with fail
      go_loopw [16] (fun i wr => ∃ j : Nat, j ≤ k ∧ i = .int .i64 j ∧ Both w' wr A B (runTo P Q j)) (fun i _ => k - (intOf i).toNat)
      case atStart => exact ⟨0, Nat.zero_le _, rfl, HB.out⟩
      case round =>
        clear HB g0
        obtain ⟨j, hj, rfl, va, vb, hA, hB, hap, hbel⟩ := hrel
        by_cases hlt : j < k
        · obtain ⟨b, off, ha, hp, hq⟩ := (h5.below hbel) j hlt
          obtain ⟨p0, p1⟩ := HI.out j hlt
          have HG : Hid (Good j (runTo P Q j)) := good_run HI.out j (by omega)
          have g1 := (good_run HI.out (j + 1) (by omega) : Good (j + 1) (runTo P Q (j + 1))).rng0
          have HSu : Hid (runTo P Q (j + 1) = bitS (runTo P Q j) (P j) (Q j)) := rfl
          obtain ⟨s1, hs1⟩ : ∃ s1, runTo P Q (j + 1) = s1 := ⟨_, rfl⟩
          have HS1 : Hid (runTo P Q (j + 1) = s1) := hs1
          rw [hs1] at g1 HSu
          clear hs1
          generalize runTo P Q j = s at *
          subst ha
          go_upto_region 20 with fail
          go_cut [17] (fun x wx => x = .int .u16 (bitP (P j) (Q j)) ∧ ∃ va', EncS wx w'.heap.size A s1 va' ∧ EncS wx w'.heap.size B s vb ∧ Apart va' vb ∧ Below w'.heap.size w' wx)
          case first =>
            have HA : Hid (EncS wr w'.heap.size A s va) := hA
            have HBs : Hid (EncS wr w'.heap.size B s vb) := hB
            have HAp : Hid (Apart va vb) := hap
            have HBe : Hid (Below w'.heap.size w' wr) := hbel
            clear hA hB hap hbel h5
            go_region_with (go_at_call 34; refine (zzBit w'.heap.size A s j (P j) (Q j) va _ (by exact HA.out.drew) HG.out (by omega) p0 p1).mono ?_; rintro e wz ⟨rfl, va', hE, hO⟩; have KK : Hid (∃ va', EncS wz w'.heap.size A s1 va' ∧ EncS wz w'.heap.size B s vb ∧ Apart va' vb ∧ Below w'.heap.size w' wz) := half_step HA.out.drew HBs.out.drew HAp.out HBe.out.drew hne hE hO HSu.out; clear hE hO)
            all_goals
              go_wp2_with fail
              go_meet
              case rel => exact ⟨rfl, Hid.out (by assumption)⟩
          case rest =>
            clear hA hB hap hbel va
            obtain ⟨rfl, va, hA, hB, hap, hbel⟩ := hcut
            obtain ⟨b', off', ha', hp', hq'⟩ := (h5.below hbel) j hlt
            simp only [Option.some.injEq, Addr.mk.injEq, and_true] at ha'
            obtain ⟨rfl, rfl⟩ := ha'
            clear hp hq
            go_upto_region 21 with fail
            go_cut [18] (fun x wx => x = .int .u16 (bitP (P j) (Q j)) ∧ Both w' wx A B s1)
            case first =>
              have HA : Hid (EncS wc w'.heap.size A s1 va) := hA
              have HBs : Hid (EncS wc w'.heap.size B s vb) := hB
              have HAp : Hid (Apart va vb) := hap
              have HBe : Hid (Below w'.heap.size w' wc) := hbel
              clear hA hB hap hbel h5
              go_region_with (go_at_call 34; refine (zzBit w'.heap.size B s j (P j) (Q j) vb _ (by exact HBs.out.drew) HG.out (by omega) p0 p1).mono ?_; rintro e wz ⟨rfl, vb', hE, hO⟩; have KK : Hid (∃ vb', EncS wz w'.heap.size B s1 vb' ∧ EncS wz w'.heap.size A s1 va ∧ Apart vb' va ∧ Below w'.heap.size w' wz) := half_step HBs.out.drew HA.out.drew HAp.out.symm HBe.out.drew (fun e => hne e.symm) hE hO HSu.out; clear hE hO)
              all_goals
                go_wp2_with fail
                go_meet
                case rel =>
                  obtain ⟨vb', k1, k2, k3, k4⟩ := Hid.out (p := ∃ vb', EncS _ w'.heap.size B s1 vb' ∧ EncS _ w'.heap.size A s1 va ∧ Apart vb' va ∧ Below w'.heap.size w' _) (by assumption)
                  exact ⟨rfl, va, vb', k2, k1, k3.symm, k4⟩
            case rest =>
              clear hA hB hap hbel va vb
              obtain ⟨rfl, hBoth⟩ := hcut
              have HB : Hid (Both w' wc A B s1) := hBoth
              obtain ⟨va, vb, hA, hB, hap, hbel⟩ := hBoth
              clear hB hap hbel HSu HG hp' hq'
              go_wp2_with fail
              refine (getRng w'.heap.size A s1 va _ hA).mono ?_
              rintro e w3 ⟨rfl, rfl⟩
              clear hA va vb
              go_wp2_with fail
              go_roundw
              case rel => exact ⟨j + 1, by omega, by go_num, by rw [HS1.out]; exact HB.out⟩
              case measure => simp [intOf]; omega
        · obtain rfl : j = k := by omega
          have HG : Hid (Good j (runTo P Q j)) := good_run HI.out j (by omega)
          generalize runTo P Q j = s at *
          have hol : s.out.length ≤ 5000 := by have := HG.out.len; omega
          obtain ⟨aa, ca, hva, vA⟩ := own_view hA.own
          obtain ⟨ab, cb, hvb, vB⟩ := own_view hB.own
          subst hva hvb
          clear hap h5
          go_wp2_with fail
          refine (getOut w'.heap.size A s _ _ hA).mono ?_
          rintro e w3 ⟨rfl, rfl⟩
          go_wp2_with fail
          refine (getOut w'.heap.size B s _ _ hB).mono ?_
          rintro e w4 ⟨rfl, rfl⟩
          have HA : Hid (EncS w4 w'.heap.size A s (.slice aa s.out.length ca)) := hA
          have HBs : Hid (EncS w4 w'.heap.size B s (.slice ab s.out.length cb)) := hB
          have HBe : Hid (Below w'.heap.size w' w4) := hbel
          have VA : Hid (Holds w4 aa s.out.length fun i => .int .u8 (outF s.out i)) := vA
          have VB : Hid (Holds w4 ab s.out.length fun i => .int .u8 (outF s.out i)) := vB
          have HZ : Hid (0 < s.out.length → outF s.out 0 = 0) := outF_head HG.out
          clear hA hB hbel vA vB
          go_wp2_with fail
          go_loopw [21] (fun i wr => ∃ t : Nat, t ≤ s.out.length ∧ i = .int .i64 t ∧ Same w4 wr) (fun i _ => s.out.length - (intOf i).toNat)
          case atStart => exact ⟨0, Nat.zero_le _, rfl, Same.refl _⟩
          case round =>
            obtain ⟨t, ht, rfl, hS⟩ := hrel
            by_cases hlt : t < s.out.length
            · obtain ⟨b1, o1, e1, c1⟩ := (hS.holds VA.out) t hlt
              obtain ⟨b2, o2, e2, c2⟩ := (hS.holds VB.out) t hlt
              subst e1 e2
              have HSa : Hid (Same w4 wr) := hS
              clear hS
              go_wp2_with fail
              go_quiet (fail)
              go_wp2_with fail
              go_roundw
              case rel => exact ⟨t + 1, by omega, by go_num, HSa.out.drewN _⟩
              case measure => simp [intOf]; omega
            · have hA := hS.enc HA.out
              have hB := hS.enc HBs.out
              have hBe : Hid (Below w'.heap.size w' wr) := hS.below HBe.out
              have vA := hS.holds VA.out
              clear hS HA HBs HBe VA VB
              go_upto_region 33 with fail
              go_cut [149] (fun x wx => x = .bool false ∧ wx = wr)
              case first =>
                clear hA hB
                by_cases hz : 0 < s.out.length
                · obtain ⟨b1, o1, e1, c1⟩ := vA 0 hz
                  have c1' : wr.cell? ⟨b1, o1 + 0, none⟩ = some (.int .u8 (outF s.out 0)) := c1
                  rw [HZ.out hz, Nat.add_zero] at c1'
                  have hz' : (0 : Int) < (s.out.length : Int) := by omega
                  subst e1
                  clear c1 vA
                  go_wp2_with fail
                  go_meet
                  case rel => exact ⟨rfl, rfl⟩
                · have hz' : decide ((0 : Int) < (s.out.length : Int)) = false := decide_eq_false (by omega)
                  clear vA
                  go_wp2_with fail
                  go_meet
                  case rel => exact ⟨rfl, rfl⟩
              case rest =>
                obtain ⟨rfl, rfl⟩ := hcut
                clear vA
                go_wp2_with fail
                refine (getLow w'.heap.size A s _ _ hA).mono ?_
                rintro e w5 ⟨rfl, rfl⟩
                go_wp2_with fail
                refine (getLow w'.heap.size B s _ _ hB).mono ?_
                rintro e w5 ⟨rfl, rfl⟩
                go_wp2_with fail
                refine (getRng w'.heap.size A s _ _ hA).mono ?_
                rintro e w5 ⟨rfl, rfl⟩
                go_wp2_with fail
                refine (getRng w'.heap.size B s _ _ hB).mono ?_
                rintro e w5 ⟨rfl, rfl⟩
                go_wp2_with fail
                refine (getCache w'.heap.size A s _ _ hA).mono ?_
                rintro e w5 ⟨rfl, rfl⟩
                go_wp2_with fail
                refine (getCache w'.heap.size B s _ _ hB).mono ?_
                rintro e w5 ⟨rfl, rfl⟩
                go_wp2_with fail
                refine (getCs w'.heap.size A s _ _ hA).mono ?_
                rintro e w5 ⟨rfl, rfl⟩
                go_wp2_with fail
                refine (getCs w'.heap.size B s _ _ hB).mono ?_
                rintro e w5 ⟨rfl, rfl⟩
                go_wp2_with fail
                go_ret
                exact ⟨rfl, hBe.out⟩
end Go.Proofs.Qxb6605628aR
