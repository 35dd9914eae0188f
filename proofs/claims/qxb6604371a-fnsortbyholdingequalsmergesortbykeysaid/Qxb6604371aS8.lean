import Derived.Test.Qxb6604371aS6
import Derived.Test.Qxb6604371aS7
import Derived.Test.Qxb6604371aA7
namespace Go.Proofs.Qxb6604371a
open Go.RowKit

/-- A row keeps what it holds while its block stays as it is. -/
theorem holdsK_same {w w' : World} {B : Nat} {d : Array Lot} (h : Go.Sort.HoldsK encLot 7 w B 0 d) (e : w'.heap[B]? = w.heap[B]?) : Go.Sort.HoldsK encLot 7 w' B 0 d := by
  intro j hj
  have c : w'.cell? ⟨B, 0 + j, none⟩ = w.cell? ⟨B, 0 + j, none⟩ := by simp only [World.cell?, e]
  have f : w'.frozen? ⟨B, 0 + j, none⟩ = w.frozen? ⟨B, 0 + j, none⟩ := by simp only [World.frozen?, e]
  rw [c, f]; exact h j hj

/-- The lots, the last first. -/
def revOf (g : Nat → Lot) (n : Nat) (i : Nat) : Lot := g (n - 1 - i)

theorem rev_perm (g : Nat → Lot) (n : Nat) : (rowOf (revOf g n) n).toList.Perm (rowOf g n).toList := by
  have : (rowOf (revOf g n) n).toList = (rowOf g n).toList.reverse := by
    apply List.ext_getElem
    · simp [rowOf]
    · intro i h1 h2
      have hi : i < n := by simpa [rowOf] using h1
      simp [rowOf, revOf, List.getElem_reverse]
  rw [this]; exact List.reverse_perm _

theorem lotKey' (a b c : ByteArray) (d : Int) (w : World) :
    Calls Try.prog 20 #[.agg #[.string a, .string b, .string c, .int .i32 d, .int .i32 0, .pointer none, .int .i32 0]] w fun e w' => e = .returned (.agg #[.string a, .string b, .string c, .int .i32 d]) ∧ ∃ s, w' = stray w s :=
  lotKey (a, b, c, d) w

theorem keyLess' (a b c a' b' c' : ByteArray) (d d' : Int) (z : Fits (a, b, c, d)) (r : Bool) (hr : ltLot (a, b, c, d) (a', b', c', d') = r) (w : World) :
    Calls Try.prog 23 #[.agg #[.string a, .string b, .string c, .int .i32 d], .agg #[.string a', .string b', .string c', .int .i32 d']] w fun e w' => e = .returned (.bool r) ∧ ∃ s, w' = stray w s := by
  subst hr; exact keyLess (a, b, c, d) (a', b', c', d') z w

/-- The seven cells of the lot at place 't'. -/
def Cells7 (w : World) (B t : Nat) (a b c : ByteArray) (d : Int) : Prop :=
  w.cell? ⟨B, t * 7, none⟩ = some (.string a) ∧ w.cell? ⟨B, t * 7 + 1, none⟩ = some (.string b) ∧ w.cell? ⟨B, t * 7 + 2, none⟩ = some (.string c) ∧ w.cell? ⟨B, t * 7 + 3, none⟩ = some (.int .i32 d) ∧
  w.cell? ⟨B, t * 7 + 4, none⟩ = some (.int .i32 0) ∧ w.cell? ⟨B, t * 7 + 5, none⟩ = some (.pointer none) ∧ w.cell? ⟨B, t * 7 + 6, none⟩ = some (.int .i32 0)

theorem cells7 {w : World} {B : Nat} {d : Array Lot} (h : Go.Sort.HoldsK encLot 7 w B 0 d) {t : Nat} (ht : t < d.size) {a b c : ByteArray} {v : Int} (e : d[t]! = (a, b, c, v)) : Cells7 w B t a b c v := by
  have k : ∀ j, j < 7 → w.cell? ⟨B, t * 7 + j, none⟩ = some (encLot d[t]!)[j]! := fun j hj => by
    have := (h.cell (i := t) (c := j) ht hj).1
    rwa [Nat.zero_add] at this
  rw [e] at k
  exact ⟨k 0 (by omega), k 1 (by omega), k 2 (by omega), k 3 (by omega), k 4 (by omega), k 5 (by omega), k 6 (by omega)⟩

theorem stray_under {B : Nat} {w wr : World} (h : Below B w wr) (hB : B ≤ w.heap.size) (s : Far) : Below B w (stray wr s) :=
  h.trans ⟨rfl, rfl, rfl, stray_size _ _, fun _ hk => stray_block _ _ (Nat.lt_of_lt_of_le (Nat.lt_of_lt_of_le hk hB) h.size)⟩

/-- The seven cells, in whatever world has strayed from here. -/
theorem cells7_stray {w : World} {B t : Nat} {a b c : ByteArray} {d : Int} (h : Cells7 w B t a b c d) (hB : B < w.heap.size) (s : Far) : Cells7 (stray w s) B t a b c d :=
  ⟨stray_cell h.1 hB s, stray_cell h.2.1 hB s, stray_cell h.2.2.1 hB s, stray_cell h.2.2.2.1 hB s, stray_cell h.2.2.2.2.1 hB s, stray_cell h.2.2.2.2.2.1 hB s, stray_cell h.2.2.2.2.2.2 hB s⟩

theorem fits_of {d d' : Array Lot} {n : Nat} (hs : d.size = n) (hp : Go.Sort.PermIn 0 d.size d d') (h : ∀ i, i < n → Fits d[i]!) : ∀ i, i < n → Fits d'[i]! := by
  intro i hi
  have e := hp.2.2
  rw [show d'.extract 0 d.size = d' by rw [← hp.1]; exact Array.extract_size, Array.extract_size] at e
  have hi' : i < d'.size := by rw [hp.1, hs]; exact hi
  rw [getElem!_pos _ i hi']
  have m : d'[i] ∈ d.toList := e.subset (by simp)
  obtain ⟨j, hj, ej⟩ := List.getElem_of_mem m
  have hj' : j < d.size := by simpa using hj
  have := h j (by omega)
  rw [getElem!_pos _ j hj'] at this
  rw [← ej]
  simpa using this

/-- Both rows hold one sorted row. -/
def Both (w : World) (B C n : Nat) : Prop :=
  ∃ d : Array Lot, d.size = n ∧ Go.Sort.HoldsK encLot 7 w B 0 d ∧ Go.Sort.HoldsK encLot 7 w C 0 d ∧ (∀ k, k + 1 < n → ltLot d[k + 1]! d[k]! = false) ∧ ∀ k, k < n → Fits d[k]!

set_option maxRecDepth 100000 in
set_option maxHeartbeats 2000000 in
theorem free_walk (a1 a2 a3 a4 : Option Addr) (n1 c1 n2 c2 n3 c3 n4 c4 : Nat) (s1 s2 s3 : Nat → ByteArray) (f : Nat → Int) (w : World) (l1 : n1 ≤ maxLen) (l2 : n2 ≤ maxLen) (l3 : n3 ≤ maxLen) (l4 : n4 ≤ maxLen)
    (h1 : Holds w a1 n1 fun i => .string (s1 i)) (z1 : ∀ i, i < n1 → (s1 i).size ≤ maxLen) (h2 : Holds w a2 n2 fun i => .string (s2 i)) (z2 : ∀ i, i < n2 → (s2 i).size ≤ maxLen) (h3 : Holds w a3 n3 fun i => .string (s3 i)) (z3 : ∀ i, i < n3 → (s3 i).size ≤ maxLen)
    (h4 : Holds w a4 n4 fun i => .int .i32 (f i)) (e1 : a1 = none → n1 = 0) (e2 : a2 = none → n2 = 0) (e3 : a3 = none → n3 = 0) (e4 : a4 = none → n4 = 0) :
    Calls Try.prog 6 #[.slice a1 n1 c1, .slice a2 n2 c2, .slice a3 n3 c3, .slice a4 n4 c4] w fun e w' => e = .returned (.bool true) ∧ Below w.heap.size w w' := by
  have r1 := StrRow.of h1 z1
  have r2 := StrRow.of h2 z2
  have r3 := StrRow.of h3 z3
  have L1 : Hid (n1 ≤ maxLen) := l1
  have L2 : Hid (n2 ≤ maxLen) := l2
  have L3 : Hid (n3 ≤ maxLen) := l3
  have L4 : Hid (n4 ≤ maxLen) := l4
  have Z : Hid ((∀ i, i < n1 → (s1 i).size ≤ maxLen) ∧ (∀ i, i < n2 → (s2 i).size ≤ maxLen) ∧ (∀ i, i < n3 → (s3 i).size ≤ maxLen)) := ⟨z1, z2, z3⟩
  unfold maxLen at l1 l2 l3 l4
  clear z1 z2 z3
  go_enter Try.func6, Try.ntmps6
  go_wp2_with fail
  refine (zzBytes21 a1 a2 a3 a4 n1 c1 n2 c2 n3 c3 n4 c4 w L1.out L2.out L3.out L4.out r1 r2 r3).mono ?_
  rintro e w' ⟨⟨v, rfl⟩, rfl⟩
  clear L1 L2 L3 L4
  cases v
  · as_aux_lemma =>
    go_wp2_with fail
    go_ret
    exact ⟨rfl, Below.refl _ _⟩
  by_cases b1 : 65536 < n1
  · as_aux_lemma =>
    go_wp2_with fail
    go_ret
    exact ⟨rfl, Below.refl _ _⟩
  by_cases b2 : 65536 < n2
  · as_aux_lemma =>
    go_wp2_with fail
    go_ret
    exact ⟨rfl, Below.refl _ _⟩
  by_cases b3 : 65536 < n3
  · as_aux_lemma =>
    go_wp2_with fail
    go_ret
    exact ⟨rfl, Below.refl _ _⟩
  by_cases b4 : 65536 < n4
  · as_aux_lemma =>
    go_wp2_with fail
    go_ret
    exact ⟨rfl, Below.refl _ _⟩
  go_wp2_with fail
  refine (stringsBytes a1 n1 c1 _ (by omega) r1).mono ?_
  rintro e w1 ⟨⟨m1, rfl, m1a, m1b⟩, rfl⟩
  go_wp2_with fail
  refine (stringsBytes a2 n2 c2 _ (by omega) r2).mono ?_
  rintro e w1 ⟨⟨m2, rfl, m2a, m2b⟩, rfl⟩
  go_wp2_with fail
  refine (stringsBytes a3 n3 c3 _ (by omega) r3).mono ?_
  rintro e w1 ⟨⟨m3, rfl, m3a, m3b⟩, rfl⟩
  clear r1 r2 r3
  by_cases hsum : m1 + m2 + m3 + 8 * (n4 : Int) ≤ 1048576
  case neg =>
    as_aux_lemma =>
    go_wp2_with fail
    go_ret
    exact ⟨rfl, Below.refl _ _⟩
  by_cases hne : n2 = n1
  case neg =>
    as_aux_lemma =>
    have hne' : ((n2 : Int) == (n1 : Int)) = false := by simp; omega
    go_wp2_with fail
    go_ret
    exact ⟨rfl, Below.refl _ _⟩
  subst hne
  by_cases hne : n3 = n2
  case neg =>
    as_aux_lemma =>
    have hne' : ((n3 : Int) == (n2 : Int)) = false := by simp; omega
    go_wp2_with fail
    go_ret
    exact ⟨rfl, Below.refl _ _⟩
  subst hne
  by_cases hne : n4 = n3
  case neg =>
    as_aux_lemma =>
    have hne' : ((n4 : Int) == (n3 : Int)) = false := by simp; omega
    go_wp2_with fail
    go_ret
    exact ⟨rfl, Below.refl _ _⟩
  subst hne
  go_wp2_with fail
  clear hsum m1a m1b m2a m2b m3a m3b b1 b2 b3
  refine (cloneStrs a1 _ c1 s1 _ (by omega) h1 e1).mono ?_
  rintro e wA ⟨⟨aA, cA, rfl, eA, hA⟩, bA⟩
  have h2' := h2.below bA
  have h3' := h3.below bA
  have h4' := h4.below bA
  clear h1 h2 h3 h4 e1 eA
  go_wp2_with fail
  refine (cloneStrs a2 _ c2 s2 _ (by omega) h2' e2).mono ?_
  rintro e wB ⟨⟨aB, cB, rfl, eB, hB⟩, bB⟩
  have hA' := hA.below bB
  have h3 := h3'.below bB
  have h4 := h4'.below bB
  have bW := bA.trans (bB.mono bA.size)
  clear h2' h3' h4' bA bB e2 hA eB
  go_wp2_with fail
  refine (cloneStrs a3 _ c3 s3 _ (by omega) h3 e3).mono ?_
  rintro e wC ⟨⟨aC, cC, rfl, eC, hC⟩, bC⟩
  have hA := hA'.below bC
  have hB' := hB.below bC
  have h4' := h4.below bC
  have bW' := bW.trans (bC.mono bW.size)
  clear h3 h4 hB hA' bC bW e3 eC
  go_wp2_with fail
  refine (cloneInts a4 _ c4 f _ (by omega) h4' e4).mono ?_
  rintro e wD ⟨⟨aD, cD, rfl, eD, hD⟩, bD⟩
  have hA' := hA.below bD
  have hB := hB'.below bD
  have hC' := hC.below bD
  have bW := bW'.trans (bD.mono bW'.size)
  clear h4' hA hB' hC bD bW' e4 eD
  go_wp2_with fail
  refine (buildLots aA aB aC aD _ cA cB cC cD s1 s2 s3 f _ (by omega) hA' hB hC' hD).mono ?_
  rintro e wE ⟨rfl, hL, bE, zE⟩
  have h1 := hA'.below bE
  have h2 := hB.below bE
  have h3 := hC'.below bE
  have h4 := hD.below bE
  have bW' := bW.trans (bE.mono bW.size)
  clear hA' hB hC' hD bE
  have ZD : Hid (w1.heap.size ≤ wD.heap.size) := bW.size
  clear bW
  have hmk := make41 n4 (by omega)
  go_wp2_with fail
  clear hmk
  go_loopw [12] (fun i wr => ∃ k : Nat, k ≤ n4 ∧ i = .int .i64 k ∧ LotsRel wE wr wE.heap.size n4 k (revOf (fun i => (s1 i, s2 i, s3 i, f i)) n4)) (fun i _ => n4 - (intOf i).toNat)
  case atStart => exact ⟨0, Nat.zero_le _, rfl, _, Row.new _ _ _, size_freshLots _, fun j hj => absurd hj (Nat.not_lt_zero _), (Below.refl _ _).alloc (Nat.le_refl _) _⟩
  case round =>
    obtain ⟨k, hk, rfl, hR⟩ := hrel
    obtain ⟨arr, hrow, hsz, hf, hbel⟩ := id hR
    by_cases hlt : k < n4
    · have hb : k * 7 + 6 < arr.size := by omega
      have hB := hrow.lt
      obtain ⟨v0, w0⟩ : ∃ v, wr.cell? ⟨wE.heap.size, k * 7, none⟩ = some v := ⟨arr[k * 7], by rw [hrow.cell]; simp⟩
      obtain ⟨v1, w1⟩ : ∃ v, wr.cell? ⟨wE.heap.size, k * 7 + 1, none⟩ = some v := ⟨arr[k * 7 + 1], by rw [hrow.cell]; simp⟩
      obtain ⟨v2, w2⟩ : ∃ v, wr.cell? ⟨wE.heap.size, k * 7 + 2, none⟩ = some v := ⟨arr[k * 7 + 2], by rw [hrow.cell]; simp⟩
      obtain ⟨v3, w3⟩ : ∃ v, wr.cell? ⟨wE.heap.size, k * 7 + 3, none⟩ = some v := ⟨arr[k * 7 + 3], by rw [hrow.cell]; simp⟩
      obtain ⟨v4, w4⟩ : ∃ v, wr.cell? ⟨wE.heap.size, k * 7 + 4, none⟩ = some v := ⟨arr[k * 7 + 4], by rw [hrow.cell]; simp⟩
      obtain ⟨v5, w5⟩ : ∃ v, wr.cell? ⟨wE.heap.size, k * 7 + 5, none⟩ = some v := ⟨arr[k * 7 + 5], by rw [hrow.cell]; simp⟩
      obtain ⟨v6, w6⟩ : ∃ v, wr.cell? ⟨wE.heap.size, k * 7 + 6, none⟩ = some v := ⟨arr[k * 7 + 6], by rw [hrow.cell]; simp⟩
      have f0 := hrow.free (k * 7)
      have f1 := hrow.free (k * 7 + 1)
      have f2 := hrow.free (k * 7 + 2)
      have f3 := hrow.free (k * 7 + 3)
      have f4 := hrow.free (k * 7 + 4)
      have f5 := hrow.free (k * 7 + 5)
      have f6 := hrow.free (k * 7 + 6)
      have S : Hid (∀ s, LotsRel wE (put7 (stray wr s) wE.heap.size (k * 7) (s1 (n4 - 1 - k), s2 (n4 - 1 - k), s3 (n4 - 1 - k), f (n4 - 1 - k))) wE.heap.size n4 (k + 1) (revOf (fun i => (s1 i, s2 i, s3 i, f i)) n4)) := fun o => hR.step (Nat.le_refl _) hlt o
      have he : Hid (((n4 : Int) - 1 - (k : Int)) = ((n4 - 1 - k : Nat) : Int)) := by show _ = _; omega
      have hlt3 : n4 - 1 - k < n4 := by omega
      generalize n4 - 1 - k = t at S he hlt3
      obtain ⟨b1, o1, e1, k1⟩ := (h1.below hbel) t hlt3
      obtain ⟨b2, o2, e2, k2⟩ := (h2.below hbel) t hlt3
      obtain ⟨b3, o3, e3, k3⟩ := (h3.below hbel) t hlt3
      obtain ⟨b4', o4, e4, k4⟩ := (h4.below hbel) t hlt3
      have x1 := stray_cell k1 (lt_of_cell k1)
      have x2 := stray_cell k2 (lt_of_cell k2)
      have x3 := stray_cell k3 (lt_of_cell k3)
      have x4 := stray_cell k4 (lt_of_cell k4)
      have y0 := stray_cell w0 hB
      have y1 := stray_cell w1 hB
      have y2 := stray_cell w2 hB
      have y3 := stray_cell w3 hB
      have y4 := stray_cell w4 hB
      have y5 := stray_cell w5 hB
      have y6 := stray_cell w6 hB
      have z0 := stray_free f0 hB
      have z1 := stray_free f1 hB
      have z2 := stray_free f2 hB
      have z3 := stray_free f3 hB
      have z4 := stray_free f4 hB
      have z5 := stray_free f5 hB
      have z6 := stray_free f6 hB
      subst e1 e2 e3 e4
      clear h1 h2 h3 h4 hrow hsz hf hbel hR hb k1 k2 k3 k4 w0 w1 w2 w3 w4 w5 w6 f0 f1 f2 f3 f4 f5 f6 hL zE bW' Z ZD
      go_wp2_with fail
      rw [he.out]
      refine region_quiet_store 20 (by kernel_rfl) (by kernel_rfl) ?_
      simp only [List.take_succ_cons, List.take_zero, List.drop_succ_cons, List.drop_zero]
      repeat (go_big_quiet_step (first | (go_at_call 22; exact newLotStray _ _ _ _ _ _)))
      refine wpQuiet_nil ?_
      rintro _ ⟨s, rfl⟩
      go_wp2_with fail
      go_roundw
      case rel => exact ⟨k + 1, by omega, by go_num, S.out _⟩
      case measure => simp [intOf]; omega
    · obtain rfl : k = n4 := by omega
      clear h1 h2 h3 h4
      have hF : ∀ i, i < k → Fits (rowOf (fun i => (s1 i, s2 i, s3 i, f i)) k)[i]! := fun i hi => by
        rw [get_rowOf _ _ _ hi]; exact ⟨Z.out.1 i hi, Z.out.2.1 i hi, Z.out.2.2 i hi⟩
      have rL := holdsK_same hL (hbel.block wD.heap.size zE)
      have rR := hf.holds hrow
      have zR := hrow.lt
      have bW := bW'.trans (hbel.mono bW'.size)
      clear hL hf hrow hsz hR Z bW'
      have M1 := sortByHolding wD.heap.size k (rowOf (fun i => (s1 i, s2 i, s3 i, f i)) k) (by rw [size_rowOf]; omega) wr rL (Nat.lt_of_lt_of_le zE hbel.size)
      rw [size_rowOf] at M1
      go_wp2_with fail
      refine M1.mono ?_
      rintro e wS ⟨rfl, hS1, hK1⟩
      have rR' := holdsK_same rR (hK1.2 wE.heap.size (by omega) zR)
      have bW' := bW.trans (hK1.1.mono ZD.out)
      have M2 := sortByHolding wE.heap.size k (rowOf (revOf (fun i => (s1 i, s2 i, s3 i, f i)) k) k) (by rw [size_rowOf]; omega) wS rR' (Nat.lt_of_lt_of_le zR hK1.1.size)
      rw [size_rowOf] at M2
      have zL : wD.heap.size < wS.heap.size := Nat.lt_of_lt_of_le zE (Nat.le_trans hbel.size hK1.1.size)
      have zR' := Nat.lt_of_lt_of_le zR hK1.1.size
      clear rL rR rR' M1 hK1 bW hbel
      go_wp2_with fail
      refine M2.mono ?_
      rintro e wT ⟨rfl, hS2, hK2⟩
      have hT : Hid (Both wT wD.heap.size wE.heap.size k) := by
        obtain ⟨d1, p1, q1, r1⟩ := hS1
        obtain ⟨d2, p2, q2, r2⟩ := hS2
        have hd : d1 = d2 := sorted_eq (rev_perm _ _) p1 q1 p2 q2
        subst hd
        have hz : d1.size = k := by rw [p1.1, size_rowOf]
        refine ⟨d1, hz, holdsK_same r1 (hK2.2 _ (by omega) zL), r2, fun j hj => ?_, fits_of (size_rowOf _ _) p1 hF⟩
        have := q1 j (j + 1) (Nat.zero_le _) (by omega) (by rw [size_rowOf]; exact hj)
        exact this
      have bW := bW'.trans (hK2.1.mono (Nat.le_trans ZD.out (Nat.le_of_lt zE)))
      have zT : wE.heap.size < wT.heap.size := Nat.lt_of_lt_of_le zR' hK2.1.size
      clear M2 hS1 hS2 hK2 bW' hF zL zR zR'
      go_wp2_with fail
      go_loopw [14] (fun i wr => ∃ j : Nat, j ≤ k ∧ i = .int .i64 j ∧ Below wT.heap.size wT wr) (fun i _ => k - (intOf i).toNat)
      case atStart => exact ⟨0, Nat.zero_le _, rfl, Below.refl _ _⟩
      case round =>
        obtain ⟨j, hj, rfl, hbel⟩ := hrel
        by_cases hlt : j < k
        · obtain ⟨d, hz, dL, dR, dS, dF⟩ := hT.out
          clear hT
          obtain ⟨⟨xa, xb, xc, xd⟩, hx⟩ : ∃ x, d[j]! = x := ⟨_, rfl⟩
          have zwL : wD.heap.size < wT.heap.size := Nat.lt_trans zE zT
          have qL := holdsK_same dL (hbel.block _ zwL)
          obtain ⟨p0, p1, p2, p3, p4, p5, p6⟩ := cells7 qL (by omega) hx
          have D : Hid (Go.Sort.HoldsK encLot 7 wT wD.heap.size 0 d ∧ Go.Sort.HoldsK encLot 7 wT wE.heap.size 0 d ∧ (∀ k', k' + 1 < k → ltLot d[k' + 1]! d[k']! = false) ∧ (∀ k', k' < k → Fits d[k']!) ∧ d[j]! = (xa, xb, xc, xd) ∧ d.size = k) := ⟨dL, dR, dS, dF, hx, hz⟩
          clear qL dL dR dS dF hx hz
          go_wp2_with fail
          refine (lotKey' xa xb xc xd wr).mono ?_
          rintro e wk ⟨rfl, s0, hwk⟩
          have bk : Below wT.heap.size wT wk := by rw [hwk]; exact stray_under hbel (Nat.le_refl _) s0
          clear hwk p0 p1 p2 p3 p4 p5 p6 hbel
          go_wp2_with fail
          obtain ⟨W1, hW1⟩ : ∃ W, W = wk.alloc (.cells #[.string xa, .string xb, .string xc, .int .i32 xd] 45) := ⟨_, rfl⟩
          rw [← hW1]
          have A1 : Row W1 wk.heap.size 45 #[.string xa, .string xb, .string xc, .int .i32 xd] := by rw [hW1]; exact Row.new _ _ _
          have b1 : Below wT.heap.size wT W1 := by rw [hW1]; exact bk.alloc bk.size _
          clear hW1
          have g0 := stray_cell (a := ⟨wk.heap.size, 0, none⟩) (v := .string xa) (by rw [A1.cell]; simp) A1.lt
          have g1 := stray_cell (a := ⟨wk.heap.size, 1, none⟩) (v := .string xb) (by rw [A1.cell]; simp) A1.lt
          have g2 := stray_cell (a := ⟨wk.heap.size, 2, none⟩) (v := .string xc) (by rw [A1.cell]; simp) A1.lt
          have g3 := stray_cell (a := ⟨wk.heap.size, 3, none⟩) (v := .int .i32 xd) (by rw [A1.cell]; simp) A1.lt
          have C1 := cells7_stray (cells7 (holdsK_same D.out.2.1 (b1.block _ zT)) (by rw [D.out.2.2.2.2.2]; exact hlt) D.out.2.2.2.2.1) (Nat.lt_of_lt_of_le zT b1.size)
          have q0 := fun s => (C1 s).1
          have q1 := fun s => (C1 s).2.1
          have q2 := fun s => (C1 s).2.2.1
          have q3 := fun s => (C1 s).2.2.2.1
          have q4 := fun s => (C1 s).2.2.2.2.1
          have q5 := fun s => (C1 s).2.2.2.2.2.1
          have q6 := fun s => (C1 s).2.2.2.2.2.2
          clear C1
          refine region_quiet_grow (by kernel_rfl) (by kernel_rfl) ?_
          repeat (go_big_quiet_step (first | (go_at_call 20; exact stray_call (lotKey' _ _ _ _ _))))
          refine wpQuiet_nil ?_
          rintro W2 ⟨s2, hW2⟩
          have A2 : Row W2 wk.heap.size 45 #[.string xa, .string xb, .string xc, .int .i32 xd] := by rw [hW2]; exact (stray_block _ _ A1.lt).trans A1
          have b2 : Below wT.heap.size wT W2 := by rw [hW2]; exact stray_under b1 (Nat.le_refl _) s2
          clear hW2 q0 q1 q2 q3 q4 q5 q6 g0 g1 g2 g3 A1 b1
          by_cases hn : j + 1 < k
          · obtain ⟨⟨ya, yb, yc, yd⟩, hy⟩ : ∃ y, d[j + 1]! = y := ⟨_, rfl⟩
            have hY : Hid (Fits (ya, yb, yc, yd) ∧ ltLot (ya, yb, yc, yd) (xa, xb, xc, xd) = false) := by
              have u1 := D.out.2.2.2.1 (j + 1) hn
              have u2 := D.out.2.2.1 j hn
              rw [hy] at u1 u2
              rw [D.out.2.2.2.2.1] at u2
              exact ⟨u1, u2⟩
            have g0 := stray_cell (a := ⟨wk.heap.size, 0, none⟩) (v := .string xa) (by rw [A2.cell]; simp) A2.lt
            have g1 := stray_cell (a := ⟨wk.heap.size, 1, none⟩) (v := .string xb) (by rw [A2.cell]; simp) A2.lt
            have g2 := stray_cell (a := ⟨wk.heap.size, 2, none⟩) (v := .string xc) (by rw [A2.cell]; simp) A2.lt
            have g3 := stray_cell (a := ⟨wk.heap.size, 3, none⟩) (v := .int .i32 xd) (by rw [A2.cell]; simp) A2.lt
            have C1 := cells7_stray (cells7 (holdsK_same D.out.1 (b2.block _ zwL)) (by rw [D.out.2.2.2.2.2]; exact hn) hy) (Nat.lt_of_lt_of_le zwL b2.size)
            have q0 := fun s => (C1 s).1
            have q1 := fun s => (C1 s).2.1
            have q2 := fun s => (C1 s).2.2.1
            have q3 := fun s => (C1 s).2.2.2.1
            have q4 := fun s => (C1 s).2.2.2.2.1
            have q5 := fun s => (C1 s).2.2.2.2.2.1
            have q6 := fun s => (C1 s).2.2.2.2.2.2
            have B3 : Hid (∀ s, Below wT.heap.size wT (stray W2 s)) := fun s => stray_under b2 (Nat.le_refl _) s
            clear C1 D hy A2 b2
            have hd : decide ((j : Int) + 1 < (k : Int)) = true := by simp; omega
            go_wp2_with fail
            refine region_quiet_grow (by kernel_rfl) (by kernel_rfl) ?_
            repeat (go_big_quiet_step (first | (go_at_call 20; exact stray_call (lotKey' _ _ _ _ _)) | (go_at_call 23; exact stray_call (keyLess' _ _ _ _ _ _ _ _ hY.out.1 _ hY.out.2 _))))
            refine wpQuiet_nil ?_
            rintro W3 ⟨s3', hW3⟩
            have b3 : Below wT.heap.size wT W3 := by rw [hW3]; exact B3.out s3'
            clear hW3 q0 q1 q2 q3 q4 q5 q6 g0 g1 g2 g3 B3
            go_wp2_with fail
            go_roundw
            case rel => exact ⟨j + 1, by omega, by go_num, b3⟩
            case measure => simp [intOf]; omega
          · have hd : decide ((j : Int) + 1 < (k : Int)) = false := by simp; omega
            have B3 : Hid (∀ s, Below wT.heap.size wT (stray W2 s)) := fun s => stray_under b2 (Nat.le_refl _) s
            clear D A2 b2
            go_wp2_with fail
            refine region_quiet_grow (by kernel_rfl) (by kernel_rfl) ?_
            repeat (go_big_quiet_step (fail))
            refine wpQuiet_nil ?_
            rintro W3 ⟨s3', hW3⟩
            have b3 : Below wT.heap.size wT W3 := by rw [hW3]; exact B3.out s3'
            clear hW3 B3
            go_wp2_with fail
            go_roundw
            case rel => exact ⟨j + 1, by omega, by go_num, b3⟩
            case measure => simp [intOf]; omega
        · clear hT
          go_wp2_with fail
          go_ret
          exact ⟨rfl, bW.trans (hbel.mono bW.size)⟩
end Go.Proofs.Qxb6604371a
