import Derived.Test.Qxb6604371aM3
import Derived.Test.Qxb6604371aS8
namespace Go.Proofs.Qxb6604371a
open Go.RowKit

/-- A key, stored cell by cell. -/
def put4 (w : World) (B o : Nat) (x : Lot) : World :=
  (((w.setCell ⟨B, o, none⟩ (.string x.1)).setCell ⟨B, o + 1, none⟩ (.string x.2.1)).setCell ⟨B, o + 2, none⟩ (.string x.2.2.1)).setCell ⟨B, o + 3, none⟩ (.int .i32 x.2.2.2)
/-- .. in the block's array. -/
def arr4 (arr : Array Value) (o : Nat) (x : Lot) : Array Value :=
  (((arr.setIfInBounds o (.string x.1)).setIfInBounds (o + 1) (.string x.2.1)).setIfInBounds (o + 2) (.string x.2.2.1)).setIfInBounds (o + 3) (.int .i32 x.2.2.2)
theorem put4_row {w : World} {B : Nat} {t : TypeId} {arr : Array Value} (h : Row w B t arr) (o : Nat) (x : Lot) : Row (put4 w B o x) B t (arr4 arr o x) :=
  (((h.set _ _).set _ _).set _ _).set _ _
theorem put4_below {w w' : World} {B C : Nat} (h : Below C w w') (hC : C ≤ B) (o : Nat) (x : Lot) : Below C w (put4 w' B o x) :=
  (((h.setCell hC _).setCell hC _).setCell hC _).setCell hC _
theorem arr4_size (arr : Array Value) (o : Nat) (x : Lot) : (arr4 arr o x).size = arr.size := by simp [arr4]

/-- The first 'k' keys lie in the array. -/
def KeysIn (arr : Array Value) (k : Nat) (g : Nat → Lot) : Prop := ∀ j, j < k → ∀ c, c < 4 → arr[j * 4 + c]? = (encKey (g j))[c]?

theorem keys_step {arr : Array Value} {n k : Nat} {g : Nat → Lot} (hs : arr.size = n * 4) (hk : k < n) (hf : KeysIn arr k g) : KeysIn (arr4 arr (k * 4) (g k)) (k + 1) g := by
  intro j hj c hc
  have hb : k * 4 + 3 < arr.size := by omega
  by_cases e : j = k
  · subst e
    have b0 : j * 4 < arr.size := by omega
    have b1 : j * 4 + 1 < arr.size := by omega
    have b2 : j * 4 + 2 < arr.size := by omega
    obtain rfl | rfl | rfl | rfl : c = 0 ∨ c = 1 ∨ c = 2 ∨ c = 3 := by omega
    all_goals simp [arr4, encKey, hb, b0, b1, b2]
  · unfold arr4
    simp only [Array.getElem?_setIfInBounds]
    rw [if_neg (by omega), if_neg (by omega), if_neg (by omega), if_neg (by omega)]
    exact hf j (by omega) c hc

theorem KeysIn.at {w : World} {B n : Nat} {t : TypeId} {arr : Array Value} {g : Nat → Lot} (h : KeysIn arr n g) (hr : Row w B t arr) : KeysAt w B 0 (rowOf g n).toList := by
  intro j x hx
  have hj : j < n := by
    have := (List.getElem?_eq_some_iff.1 hx).1
    simpa [rowOf] using this
  have e : g j = x := by
    simp [rowOf, hj] at hx
    exact hx
  subst e
  have k : ∀ c, c < 4 → w.cell? ⟨B, 0 + j * 4 + c, none⟩ = (encKey (g j))[c]? := fun c hc => by rw [Nat.zero_add, hr.cell]; exact h j hj c hc
  exact ⟨k 0 (by omega), k 1 (by omega), k 2 (by omega), k 3 (by omega)⟩

/-- What the key loop's round keeps. -/
def KeysRel (w wr : World) (B n k : Nat) (g : Nat → Lot) : Prop :=
  ∃ arr, Row wr B 45 arr ∧ arr.size = n * 4 ∧ KeysIn arr k g ∧ Below w.heap.size w wr

theorem KeysRel.step {w wr : World} {B n k : Nat} {g : Nat → Lot} (hr : KeysRel w wr B n k g) (hB : w.heap.size ≤ B) (hk : k < n) (s : Far) :
    KeysRel w (put4 (stray wr s) B (k * 4) (g k)) B n (k + 1) g := by
  obtain ⟨arr, hrow, hsz, hf, hbel⟩ := hr
  have hrow' : Row (stray wr s) B 45 arr := (stray_block _ _ hrow.lt).trans hrow
  exact ⟨_, put4_row hrow' _ _, by rw [arr4_size, hsz], keys_step hsz hk hf, put4_below (stray_below hbel s) hB _ _⟩

/-- The one ascending permutation. -/
theorem sorted_list {x x' : Array Lot} {ys : List Lot} (h1 : Go.Sort.PermIn 0 x.size x x') (h2 : Go.Sort.SortedIn ltLot 0 x.size x') (hp : ys.Perm x.toList) (ha : Asc ys) : x'.toList = ys := by
  have ex : x'.toList.Perm x.toList := by
    have := h1.2.2
    rw [show x'.extract 0 x.size = x' by rw [← h1.1]; exact Array.extract_size, Array.extract_size] at this
    exact this
  refine List.Perm.eq_of_pairwise (le := fun a b => (!ltLot b a) = true) ?_ ?_ ha (ex.trans hp.symm)
  · intro a b _ _ e1 e2
    simp only [Bool.not_eq_true'] at e1 e2
    exact sto_lot.tri a b e2 e1
  · rw [List.pairwise_iff_getElem]
    intro i j hi hj hij
    have hi' : i < x'.size := by simpa using hi
    have hj' : j < x'.size := by simpa using hj
    have := h2 i j (Nat.zero_le _) hij (by rw [← h1.1]; exact hj')
    rw [getElem!_pos x' j hj', getElem!_pos x' i hi'] at this
    simpa using this

/-- The sorted lots and the sorted keys are one row. -/
def Match (w : World) (B C n : Nat) : Prop :=
  ∃ d : Array Lot, d.size = n ∧ Go.Sort.HoldsK encLot 7 w B 0 d ∧ KeysAt w C 0 d.toList

set_option maxRecDepth 100000 in
set_option maxHeartbeats 2000000 in
theorem merge_walk (a1 a2 a3 a4 : Option Addr) (n1 c1 n2 c2 n3 c3 n4 c4 : Nat) (s1 s2 s3 : Nat → ByteArray) (f : Nat → Int) (w : World) (l1 : n1 ≤ maxLen) (l2 : n2 ≤ maxLen) (l3 : n3 ≤ maxLen) (l4 : n4 ≤ maxLen)
    (h1 : Holds w a1 n1 fun i => .string (s1 i)) (z1 : ∀ i, i < n1 → (s1 i).size ≤ maxLen) (h2 : Holds w a2 n2 fun i => .string (s2 i)) (z2 : ∀ i, i < n2 → (s2 i).size ≤ maxLen) (h3 : Holds w a3 n3 fun i => .string (s3 i)) (z3 : ∀ i, i < n3 → (s3 i).size ≤ maxLen)
    (h4 : Holds w a4 n4 fun i => .int .i32 (f i)) (e1 : a1 = none → n1 = 0) (e2 : a2 = none → n2 = 0) (e3 : a3 = none → n3 = 0) (e4 : a4 = none → n4 = 0) :
    Calls Try.prog 5 #[.slice a1 n1 c1, .slice a2 n2 c2, .slice a3 n3 c3, .slice a4 n4 c4] w fun e w' => e = .returned (.bool true) ∧ Below w.heap.size w w' := by
  have r1 := StrRow.of h1 z1
  have r2 := StrRow.of h2 z2
  have r3 := StrRow.of h3 z3
  have L1 : Hid (n1 ≤ maxLen) := l1
  have L2 : Hid (n2 ≤ maxLen) := l2
  have L3 : Hid (n3 ≤ maxLen) := l3
  have L4 : Hid (n4 ≤ maxLen) := l4
  have Z : Hid ((∀ i, i < n1 → (s1 i).size ≤ maxLen) ∧ (∀ i, i < n2 → (s2 i).size ≤ maxLen) ∧ (∀ i, i < n3 → (s3 i).size ≤ maxLen)) := ⟨z1, z2, z3⟩
  unfold maxLen at l1 l2 l3 l4
  clear z1 z2 z3
  go_enter Try.func5, Try.ntmps5
  go_wp2_with fail
  refine (zzBytes16 a1 a2 a3 a4 n1 c1 n2 c2 n3 c3 n4 c4 w L1.out L2.out L3.out L4.out r1 r2 r3).mono ?_
  rintro e w' ⟨⟨v, rfl⟩, rfl⟩
  clear L1 L2 L3 L4
  cases v
  · as_aux_lemma =>
    go_wp2_with fail
    go_ret
    exact ⟨rfl, Below.refl _ _⟩
  by_cases b1 : 65536 < n1
  · as_aux_lemma =>
    go_wp2_with fail
    go_ret
    exact ⟨rfl, Below.refl _ _⟩
  by_cases b2 : 65536 < n2
  · as_aux_lemma =>
    go_wp2_with fail
    go_ret
    exact ⟨rfl, Below.refl _ _⟩
  by_cases b3 : 65536 < n3
  · as_aux_lemma =>
    go_wp2_with fail
    go_ret
    exact ⟨rfl, Below.refl _ _⟩
  by_cases b4 : 65536 < n4
  · as_aux_lemma =>
    go_wp2_with fail
    go_ret
    exact ⟨rfl, Below.refl _ _⟩
  go_wp2_with fail
  refine (stringsBytes a1 n1 c1 _ (by omega) r1).mono ?_
  rintro e w1 ⟨⟨m1, rfl, m1a, m1b⟩, rfl⟩
  go_wp2_with fail
  refine (stringsBytes a2 n2 c2 _ (by omega) r2).mono ?_
  rintro e w1 ⟨⟨m2, rfl, m2a, m2b⟩, rfl⟩
  go_wp2_with fail
  refine (stringsBytes a3 n3 c3 _ (by omega) r3).mono ?_
  rintro e w1 ⟨⟨m3, rfl, m3a, m3b⟩, rfl⟩
  clear r1 r2 r3
  by_cases hsum : m1 + m2 + m3 + 8 * (n4 : Int) ≤ 1048576
  case neg =>
    as_aux_lemma =>
    go_wp2_with fail
    go_ret
    exact ⟨rfl, Below.refl _ _⟩
  by_cases hne : n2 = n1
  case neg =>
    as_aux_lemma =>
    have hne' : ((n2 : Int) == (n1 : Int)) = false := by simp; omega
    go_wp2_with fail
    go_ret
    exact ⟨rfl, Below.refl _ _⟩
  subst hne
  by_cases hne : n3 = n2
  case neg =>
    as_aux_lemma =>
    have hne' : ((n3 : Int) == (n2 : Int)) = false := by simp; omega
    go_wp2_with fail
    go_ret
    exact ⟨rfl, Below.refl _ _⟩
  subst hne
  by_cases hne : n4 = n3
  case neg =>
    as_aux_lemma =>
    have hne' : ((n4 : Int) == (n3 : Int)) = false := by simp; omega
    go_wp2_with fail
    go_ret
    exact ⟨rfl, Below.refl _ _⟩
  subst hne
  go_wp2_with fail
  clear hsum m1a m1b m2a m2b m3a m3b b1 b2 b3
  refine (cloneStrs a1 _ c1 s1 _ (by omega) h1 e1).mono ?_
  rintro e wA ⟨⟨aA, cA, rfl, eA, hA⟩, bA⟩
  have h2' := h2.below bA
  have h3' := h3.below bA
  have h4' := h4.below bA
  clear h1 h2 h3 h4 e1 eA
  go_wp2_with fail
  refine (cloneStrs a2 _ c2 s2 _ (by omega) h2' e2).mono ?_
  rintro e wB ⟨⟨aB, cB, rfl, eB, hB⟩, bB⟩
  have hA' := hA.below bB
  have h3 := h3'.below bB
  have h4 := h4'.below bB
  have bW := bA.trans (bB.mono bA.size)
  clear h2' h3' h4' bA bB e2 hA eB
  go_wp2_with fail
  refine (cloneStrs a3 _ c3 s3 _ (by omega) h3 e3).mono ?_
  rintro e wC ⟨⟨aC, cC, rfl, eC, hC⟩, bC⟩
  have hA := hA'.below bC
  have hB' := hB.below bC
  have h4' := h4.below bC
  have bW' := bW.trans (bC.mono bW.size)
  clear h3 h4 hB hA' bC bW e3 eC
  go_wp2_with fail
  refine (cloneInts a4 _ c4 f _ (by omega) h4' e4).mono ?_
  rintro e wD ⟨⟨aD, cD, rfl, eD, hD⟩, bD⟩
  have hA' := hA.below bD
  have hB := hB'.below bD
  have hC' := hC.below bD
  have bW := bW'.trans (bD.mono bW'.size)
  clear h4' hA hB' hC bD bW' e4 eD
  go_wp2_with fail
  refine (buildLots aA aB aC aD _ cA cB cC cD s1 s2 s3 f _ (by omega) hA' hB hC' hD).mono ?_
  rintro e wE ⟨rfl, hL, bE, zE⟩
  have h1 := hA'.below bE
  have h2 := hB.below bE
  have h3 := hC'.below bE
  have h4 := hD.below bE
  have bW' := bW.trans (bE.mono bW.size)
  clear hA' hB hC' hD bE
  have ZD : Hid (w1.heap.size ≤ wD.heap.size) := bW.size
  clear bW
  have hmk := make43 n4 (by omega)
  go_wp2_with fail
  clear hmk
  go_loopw [12] (fun i wr => ∃ k : Nat, k ≤ n4 ∧ i = .int .i64 k ∧ KeysRel wE wr wE.heap.size n4 k (fun i => (s1 i, s2 i, s3 i, f i))) (fun i _ => n4 - (intOf i).toNat)
  case atStart => exact ⟨0, Nat.zero_le _, rfl, _, Row.new _ _ _, size_freshKeys _, fun j hj => absurd hj (Nat.not_lt_zero _), (Below.refl _ _).alloc (Nat.le_refl _) _⟩
  case round =>
    obtain ⟨k, hk, rfl, hR⟩ := hrel
    obtain ⟨arr, hrow, hsz, hf, hbel⟩ := id hR
    by_cases hlt : k < n4
    · have hb : k * 4 + 3 < arr.size := by omega
      have hB := hrow.lt
      obtain ⟨v0, w0⟩ : ∃ v, wr.cell? ⟨wE.heap.size, k * 4, none⟩ = some v := ⟨arr[k * 4], by rw [hrow.cell]; simp⟩
      obtain ⟨v1, w1⟩ : ∃ v, wr.cell? ⟨wE.heap.size, k * 4 + 1, none⟩ = some v := ⟨arr[k * 4 + 1], by rw [hrow.cell]; simp⟩
      obtain ⟨v2, w2⟩ : ∃ v, wr.cell? ⟨wE.heap.size, k * 4 + 2, none⟩ = some v := ⟨arr[k * 4 + 2], by rw [hrow.cell]; simp⟩
      obtain ⟨v3, w3⟩ : ∃ v, wr.cell? ⟨wE.heap.size, k * 4 + 3, none⟩ = some v := ⟨arr[k * 4 + 3], by rw [hrow.cell]; simp⟩
      have f0 := hrow.free (k * 4)
      have f1 := hrow.free (k * 4 + 1)
      have f2 := hrow.free (k * 4 + 2)
      have f3 := hrow.free (k * 4 + 3)
      have S : Hid (∀ s, KeysRel wE (put4 (stray wr s) wE.heap.size (k * 4) (s1 k, s2 k, s3 k, f k)) wE.heap.size n4 (k + 1) (fun i => (s1 i, s2 i, s3 i, f i))) := fun o => hR.step (Nat.le_refl _) hlt o
      obtain ⟨b1, o1, e1, k1⟩ := (h1.below hbel) k hlt
      obtain ⟨b2, o2, e2, k2⟩ := (h2.below hbel) k hlt
      obtain ⟨b3, o3, e3, k3⟩ := (h3.below hbel) k hlt
      obtain ⟨b4', o4, e4, k4⟩ := (h4.below hbel) k hlt
      have x1 := stray_cell k1 (lt_of_cell k1)
      have x2 := stray_cell k2 (lt_of_cell k2)
      have x3 := stray_cell k3 (lt_of_cell k3)
      have x4 := stray_cell k4 (lt_of_cell k4)
      have y0 := stray_cell w0 hB
      have y1 := stray_cell w1 hB
      have y2 := stray_cell w2 hB
      have y3 := stray_cell w3 hB
      have z0 := stray_free f0 hB
      have z1 := stray_free f1 hB
      have z2 := stray_free f2 hB
      have z3 := stray_free f3 hB
      subst e1 e2 e3 e4
      clear h1 h2 h3 h4 hrow hsz hf hbel hR hb k1 k2 k3 k4 w0 w1 w2 w3 f0 f1 f2 f3 hL zE bW' Z ZD
      go_wp2_with fail
      refine region_quiet_store 20 (by kernel_rfl) (by kernel_rfl) ?_
      simp only [List.take_succ_cons, List.take_zero, List.drop_succ_cons, List.drop_zero]
      repeat (go_big_quiet_step (fail))
      refine wpQuiet_nil ?_
      rintro _ ⟨s, rfl⟩
      go_wp2_with fail
      go_roundw
      case rel => exact ⟨k + 1, by omega, by go_num, S.out _⟩
      case measure => simp [intOf]; omega
    · obtain rfl : k = n4 := by omega
      clear h1 h2 h3 h4
      have hF : ∀ x ∈ (rowOf (fun i => (s1 i, s2 i, s3 i, f i)) k).toList, Fits x := fun x hx => by
        simp [rowOf] at hx
        obtain ⟨i, hi, rfl⟩ := hx
        exact ⟨Z.out.1 i hi, Z.out.2.1 i hi, Z.out.2.2 i hi⟩
      have rL := holdsK_same hL (hbel.block wD.heap.size zE)
      have kK := hf.at hrow
      have zK := hrow.lt
      have bW := bW'.trans (hbel.mono bW'.size)
      clear hL hf hrow hsz hR Z bW'
      have M1 := mergeSort k k wE.heap.size 0 (rowOf (fun i => (s1 i, s2 i, s3 i, f i)) k).toList wr (Nat.le_refl _) (by omega) (by simp [rowOf]) kK zK hF
      go_wp2_with fail
      refine M1.mono ?_
      rintro e wM ⟨⟨BM, cM, ys, rfl, zM0, zM, zM1, zM2, kM, pM, aM⟩, bM⟩
      clear M1 kK hF
      have zL : wD.heap.size < wr.heap.size := Nat.lt_of_lt_of_le zE hbel.size
      have rL' := holdsK_same rL (bM.block wD.heap.size zL)
      have bW' := bW.trans (bM.mono bW.size)
      have M2 := sortByHolding wD.heap.size k (rowOf (fun i => (s1 i, s2 i, s3 i, f i)) k) (by rw [size_rowOf]; omega) wM rL' (Nat.lt_of_lt_of_le zL bM.size)
      rw [size_rowOf] at M2
      clear rL rL' bW bM hbel
      go_wp2_with fail
      refine M2.mono ?_
      rintro e wT ⟨rfl, hS, hK⟩
      have hT : Hid (Match wT wD.heap.size BM k) := by
        obtain ⟨d, p1, q1, r1⟩ := hS
        have hd := sorted_list p1 q1 pM aM
        refine ⟨d, by rw [p1.1, size_rowOf], r1, ?_⟩
        rw [hd]
        exact kM.same (hK.2 BM (by omega) zM)
      have bW := bW'.trans (hK.1.mono ZD.out)
      have zT : wD.heap.size < wT.heap.size := Nat.lt_of_lt_of_le (Nat.lt_of_lt_of_le zL (by omega)) hK.1.size
      have zB : BM < wT.heap.size := Nat.lt_of_lt_of_le zM hK.1.size
      clear M2 hS hK bW' kM pM aM zM zM0 zL zK zE ZD
      go_wp2_with fail
      go_loopw [14] (fun i wr => ∃ j : Nat, j ≤ k ∧ i = .int .i64 j ∧ Below wT.heap.size wT wr) (fun i _ => k - (intOf i).toNat)
      case atStart => exact ⟨0, Nat.zero_le _, rfl, Below.refl _ _⟩
      case round =>
        obtain ⟨j, hj, rfl, hbel⟩ := hrel
        by_cases hlt : j < k
        · obtain ⟨d, hz, dL, dK⟩ := hT.out
          clear hT
          obtain ⟨⟨xa, xb, xc, xd⟩, hx⟩ : ∃ x, d[j]! = x := ⟨_, rfl⟩
          have hx2 : d.toList[j]? = some (xa, xb, xc, xd) := by
            rw [getElem!_pos d j (by omega)] at hx
            simp [hx, show j < d.size by omega]
          have C1 := cells7_stray (cells7 (holdsK_same dL (hbel.block _ zT)) (by omega) hx) (Nat.lt_of_lt_of_le zT hbel.size)
          have q0 := fun s => (C1 s).1
          have q1 := fun s => (C1 s).2.1
          have q2 := fun s => (C1 s).2.2.1
          have q3 := fun s => (C1 s).2.2.2.1
          have q4 := fun s => (C1 s).2.2.2.2.1
          have q5 := fun s => (C1 s).2.2.2.2.2.1
          have q6 := fun s => (C1 s).2.2.2.2.2.2
          have K1 := (dK.same (hbel.block _ zB)) j _ hx2
          rw [Nat.zero_add] at K1
          obtain ⟨g0, g1, g2, g3⟩ := K1
          simp only at g0 g1 g2 g3
          have t0 := stray_cell g0 (lt_of_cell g0)
          have t1 := stray_cell g1 (lt_of_cell g1)
          have t2 := stray_cell g2 (lt_of_cell g2)
          have t3 := stray_cell g3 (lt_of_cell g3)
          have B3 : Hid (∀ s, Below wT.heap.size wT (stray wr s)) := fun s => stray_under hbel (Nat.le_refl _) s
          clear C1 hx hx2 dL dK hz g0 g1 g2 g3 hbel
          go_wp2_with fail
          refine region_quiet_grow (by kernel_rfl) (by kernel_rfl) ?_
          repeat (go_big_quiet_step (first | (go_at_call 20; exact stray_call (lotKey' _ _ _ _ _))))
          refine wpQuiet_nil ?_
          rintro W3 ⟨s', hW3⟩
          have b3 : Below wT.heap.size wT W3 := by rw [hW3]; exact B3.out s'
          clear hW3 q0 q1 q2 q3 q4 q5 q6 t0 t1 t2 t3 B3
          go_wp2_with fail
          go_roundw
          case rel => exact ⟨j + 1, by omega, by go_num, b3⟩
          case measure => simp [intOf]; omega
        · clear hT
          go_wp2_with fail
          go_ret
          exact ⟨rfl, bW.trans (hbel.mono bW.size)⟩
end Go.Proofs.Qxb6604371a
