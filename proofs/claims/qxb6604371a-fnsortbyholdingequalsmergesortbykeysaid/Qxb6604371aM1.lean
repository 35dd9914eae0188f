import Derived.Test.Qxb6604371aS5
import Derived.OwnWalk
namespace Go.Proofs.Qxb6604371a
open Go.RowKit

/-- A key's four cells. -/
def encKey (x : Lot) : List Value := [.string x.1, .string x.2.1, .string x.2.2.1, .int .i32 x.2.2.2]
/-- The cells of a row of keys. -/
def flat : List Lot → List Value
  | [] => []
  | x :: ks => encKey x ++ flat ks

theorem size_flat (ks : List Lot) : (flat ks).length = ks.length * 4 := by
  induction ks with
  | nil => rfl
  | cons x ks ih => simp [flat, encKey, ih]; omega
theorem flat_append (a b : List Lot) : flat (a ++ b) = flat a ++ flat b := by
  induction a with
  | nil => rfl
  | cons x a ih => simp [flat, ih]
theorem flat_one (x : Lot) : flat [x] = encKey x := by simp [flat]
theorem flat_ones (ks : List Lot) : ∀ u ∈ flat ks, u.oneCell' = true := by
  induction ks with
  | nil => intro u hu; simp [flat] at hu
  | cons x ks ih =>
    intro u hu
    rw [flat, List.mem_append] at hu
    rcases hu with hu | hu
    · simp [encKey] at hu
      rcases hu with rfl | rfl | rfl | rfl <;> rfl
    · exact ih u hu
/-- The key at place 't' of the flat row. -/
theorem flat_at {ks : List Lot} {t : Nat} {x : Lot} (h : ks[t]? = some x) (c : Nat) (hc : c < 4) : (flat ks)[t * 4 + c]? = (encKey x)[c]? := by
  induction ks generalizing t with
  | nil => simp at h
  | cons y ks ih =>
    cases t with
    | zero =>
      obtain rfl : y = x := by simpa using h
      rw [flat, List.getElem?_append_left (by simp [encKey]; omega)]
      simp
    | succ t =>
      rw [flat, List.getElem?_append_right (by simp [encKey]; omega)]
      rw [show (t + 1) * 4 + c - (encKey y).length = t * 4 + c by simp [encKey]; omega]
      exact ih (by simpa using h)
/-- Whatever lies in the flat row is a cell of some key. -/
theorem flat_get {ks : List Lot} {j : Nat} {u : Value} (h : (flat ks)[j]? = some u) : ∃ t x c, ks[t]? = some x ∧ c < 4 ∧ j = t * 4 + c ∧ (encKey x)[c]? = some u := by
  have hj : j < ks.length * 4 := by
    have := (List.getElem?_eq_some_iff.1 h).1
    rwa [size_flat] at this
  have ht : j / 4 < ks.length := by omega
  refine ⟨j / 4, ks[j / 4], j % 4, List.getElem?_eq_getElem ht, Nat.mod_lt _ (by omega), by omega, ?_⟩
  rw [← flat_at (List.getElem?_eq_getElem ht) (j % 4) (Nat.mod_lt _ (by omega)), show j / 4 * 4 + j % 4 = j by omega]
  exact h

/-- The keys lie in block 'B' from 'off' on. -/
def KeysAt (w : World) (B off : Nat) (ks : List Lot) : Prop := ∀ t x, ks[t]? = some x → LotAt w B (off + t * 4) x

theorem KeysAt.cells {w : World} {B off : Nat} {ks : List Lot} (h : KeysAt w B off ks) {j : Nat} {u : Value} (hu : (flat ks)[j]? = some u) : w.cell? ⟨B, off + j, none⟩ = some u := by
  obtain ⟨t, x, c, h1, h2, rfl, h3⟩ := flat_get hu
  obtain ⟨p0, p1, p2, p3⟩ := h t x h1
  obtain rfl | rfl | rfl | rfl : c = 0 ∨ c = 1 ∨ c = 2 ∨ c = 3 := by omega
  all_goals
    simp [encKey] at h3
    subst h3
    first | exact p0 | exact p1 | exact p2 | exact p3
theorem KeysAt.of_flat {w : World} {B off : Nat} {ks : List Lot} (h : ∀ j u, (flat ks)[j]? = some u → w.cell? ⟨B, off + j, none⟩ = some u) : KeysAt w B off ks := by
  intro t x hx
  have k : ∀ c, c < 4 → ∀ v, (encKey x)[c]? = some v → w.cell? ⟨B, off + t * 4 + c, none⟩ = some v := fun c hc v hv => by
    rw [Nat.add_assoc]; exact h _ _ ((flat_at hx c hc).trans hv)
  exact ⟨k 0 (by omega) _ rfl, k 1 (by omega) _ rfl, k 2 (by omega) _ rfl, k 3 (by omega) _ rfl⟩
theorem KeysAt.take {w : World} {B off : Nat} {ks : List Lot} (h : KeysAt w B off ks) (m : Nat) : KeysAt w B off (ks.take m) := by
  intro t x hx
  rw [List.getElem?_take] at hx
  split at hx
  · exact h t x hx
  · simp at hx
theorem KeysAt.drop {w : World} {B off : Nat} {ks : List Lot} (h : KeysAt w B off ks) (m : Nat) : KeysAt w B (off + m * 4) (ks.drop m) := by
  intro t x hx
  rw [List.getElem?_drop] at hx
  have := h (m + t) x hx
  rwa [show off + (m + t) * 4 = off + m * 4 + t * 4 by omega] at this
theorem LotAt.same {w w' : World} {B o : Nat} {x : Lot} (h : LotAt w B o x) (e : w'.heap[B]? = w.heap[B]?) : LotAt w' B o x := by
  have c : ∀ j, w'.cell? ⟨B, j, none⟩ = w.cell? ⟨B, j, none⟩ := fun j => by simp only [World.cell?, e]
  obtain ⟨p0, p1, p2, p3⟩ := h
  exact ⟨(c _).trans p0, (c _).trans p1, (c _).trans p2, (c _).trans p3⟩
theorem KeysAt.same {w w' : World} {B off : Nat} {ks : List Lot} (h : KeysAt w B off ks) (e : w'.heap[B]? = w.heap[B]?) : KeysAt w' B off ks := fun t x hx => (h t x hx).same e

/-- What an own row holds, as keys. -/
theorem own_keys {w : World} {base g n cap : Nat} {ks : List Lot} (h : w.ownsRow base 45 4 (.slice (some ⟨g, 0, none⟩) n cap) n (flat ks)) : KeysAt w g 0 ks ∧ base ≤ g ∧ g < w.heap.size := by
  refine ⟨KeysAt.of_flat fun j u hu => ?_, ?_⟩
  · have := h.cells (g := g) rfl j u hu
    rwa [Addr.add_lit] at this
  · rcases h.2 with ⟨h1, _⟩ | ⟨g', cap', cur, h1, h2, h3, _⟩
    · cases h1
    · cases h1
      exact ⟨h2, lt_of_block h3⟩

/-- The two rows merged. -/
def mrg (a b : List Lot) : List Lot := a.merge b (fun x y => !ltLot y x)
/-- Ascending. -/
def Asc (ks : List Lot) : Prop := ks.Pairwise (fun a b => (!ltLot b a) = true)

theorem mrg_asc {a b : List Lot} (ha : Asc a) (hb : Asc b) : Asc (mrg a b) := by
  refine List.pairwise_merge ?_ ?_ a b ha hb
  · intro x y z h1 h2
    simp only [Bool.not_eq_true'] at h1 h2 ⊢
    exact sto_lot.swo.ntrans z y x h2 h1
  · intro x y
    cases h : ltLot y x with
    | false => simp
    | true =>
      cases h2 : ltLot x y with
      | false => simp
      | true =>
        have := sto_lot.trans x y x h2 h
        rw [sto_lot.irrefl] at this; exact absurd this (by simp)
theorem mrg_perm (a b : List Lot) : (mrg a b).Perm (a ++ b) := List.merge_perm_append _

theorem drop_at {ks : List Lot} {i : Nat} {x : Lot} (h : ks[i]? = some x) : ks.drop i = x :: ks.drop (i + 1) := by
  obtain ⟨hi, rfl⟩ := List.getElem?_eq_some_iff.1 h
  exact List.drop_eq_getElem_cons hi
theorem mrg_r {L R : List Lot} {i j : Nat} {x y : Lot} (hx : L[i]? = some x) (hy : R[j]? = some y) (h : ltLot y x = true) : mrg (L.drop i) (R.drop j) = y :: mrg (L.drop i) (R.drop (j + 1)) := by
  rw [drop_at hx, drop_at hy]; unfold mrg; rw [List.merge]; simp [h]
theorem mrg_l {L R : List Lot} {i j : Nat} {x y : Lot} (hx : L[i]? = some x) (hy : R[j]? = some y) (h : ltLot y x = false) : mrg (L.drop i) (R.drop j) = x :: mrg (L.drop (i + 1)) (R.drop j) := by
  rw [drop_at hx, drop_at hy]; unfold mrg; rw [List.merge]; simp [h]
theorem mrg_end {L R acc : List Lot} {i j : Nat} (h : acc ++ mrg (L.drop i) (R.drop j) = mrg L R) (hn : ¬ (i < L.length ∧ j < R.length)) : acc ++ L.drop i ++ R.drop j = mrg L R := by
  rw [← h, List.append_assoc]
  congr 1
  rcases Nat.lt_or_ge i L.length with h1 | h1
  · have : R.drop j = [] := List.drop_eq_nil_of_le (by omega)
    rw [this]; simp [mrg]
  · rw [List.drop_eq_nil_of_le h1]; simp [mrg]
end Go.Proofs.Qxb6604371a
