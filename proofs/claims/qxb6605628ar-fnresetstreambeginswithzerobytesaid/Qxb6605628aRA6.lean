import Derived.Test.Qxb6605628aRA5
import Derived.Deep.RegionWith
namespace Go.Proofs.Qxb6605628aR
open Go.RowKit

/-- The ending is 'returned a bool'. -/
def IsBool (e : Ending) : Prop := ∃ v : Bool, e = .returned (.bool v)
theorem IsBool.mk {e : Ending} {v : Bool} (h : e = .returned (.bool v)) : IsBool e := ⟨v, h⟩

theorem bytes33 (x0 x1 x2 x3 : Int) (a4 a5 : Option Addr) (n4 c4 n5 c5 : Nat) (w : World) (l4 : n4 ≤ maxLen) (l5 : n5 ≤ maxLen) :
    Calls Try.prog 33 #[.int .u64 x0, .int .u32 x1, .int .u8 x2, .int .i64 x3, .slice a4 n4 c4, .slice a5 n5 c5] w fun e w' => IsBool e ∧ w' = w := by
  unfold maxLen at l4 l5
  go_enter Try.func33, Try.ntmps33
  go_wp2
  all_goals (go_ret; exact ⟨IsBool.mk rfl, rfl⟩)

/-- A slice of coded bits. -/
def Bits (w : World) (a : Option Addr) (n : Nat) (P Q : Nat → Int) : Prop :=
  ∀ i, i < n → ∃ b off, a = some ⟨b, off, none⟩ ∧ w.cell? ⟨b, off + i * 2, none⟩ = some (.int .u16 (P i)) ∧ w.cell? ⟨b, off + i * 2 + 1, none⟩ = some (.int .u32 (Q i))
theorem Bits.below {w w' : World} {a : Option Addr} {n : Nat} {P Q : Nat → Int} (hc : Bits w a n P Q) (hb : Below w.heap.size w w') : Bits w' a n P Q := by
  intro i hi
  obtain ⟨b, off, ha, h1, h2⟩ := hc i hi
  exact ⟨b, off, ha, (hb.cell (p := ⟨b, off + i * 2, none⟩) (lt_of_cell h1)).trans h1, (hb.cell (p := ⟨b, off + i * 2 + 1, none⟩) (lt_of_cell h2)).trans h2⟩

/-- The first 'k' probabilities lie in the law's range. -/
def InRange (P : Nat → Int) (k : Nat) : Prop := ∀ i, i < k → 31 ≤ P i ∧ P i ≤ 2017
theorem InRange.step {P : Nat → Int} {k : Nat} (h : InRange P k) (h1 : 31 ≤ P k) (h2 : P k ≤ 2017) : InRange P (k + 1) := by
  intro i hi
  by_cases e : i = k
  · subst e; exact ⟨h1, h2⟩
  · exact h i (by omega)

/-- The state after the first 'k' bits. -/
def runTo (P Q : Nat → Int) : Nat → St
  | 0 => St0
  | k + 1 => bitS (runTo P Q k) (P k) (Q k)
theorem good_run {P Q : Nat → Int} {n : Nat} (h : InRange P n) (k : Nat) (hk : k ≤ n) : Good k (runTo P Q k) := by
  induction k with
  | zero => exact good0
  | succ k ih => exact good_bit (ih (by omega)) (h k (by omega)).1 (h k (by omega)).2

/-- Two slices of the call's own that lie in different rows. -/
def Apart (v u : Value) : Prop := ∀ g, u.ownBlock = some g → v.ownBlock ≠ some g
theorem Apart.symm {v u : Value} (h : Apart v u) : Apart u v := fun g h1 h2 => h g h2 h1

/-- One encoder is written; the other stays as it is. -/
theorem EncS.keep {w w' : World} {base A B : Nat} {s t : St} {v v' u : Value} (ha : EncS w base A s v) (hb : EncS w base B t u) (hO : Only w w' A v v') (hne : A ≠ B) (hap : Apart v u) : EncS w' base B t u ∧ Apart v' u := by
  have hlt : ∀ g, u.ownBlock = some g → g < w.heap.size := fun g hg => (hb.own.lt g hg).2
  refine ⟨⟨hO.row hb.row (fun e => hne e.symm) (row_ne_own ha.own hb.row (by decide)), ?_, hb.ge⟩, ?_⟩
  · refine ⟨hb.own.1, ?_⟩
    rcases hb.own.2 with h | ⟨g, cap, cur, hv, hg, hh, r⟩
    · exact .inl h
    · refine .inr ⟨g, cap, cur, hv, hg, ?_, r⟩
      have hog : u.ownBlock = some g := by rw [hv]; rfl
      rw [hO.block g (hlt g hog) ?_ (fun e => hap g hog e.symm)]
      · exact hh
      · intro e
        subst e
        have := ha.row
        unfold Row at this
        rw [hh] at this
        simp at this
  · intro g hg
    rcases hO.place with e | ⟨k, hk, e⟩
    · rw [e]; exact hap g hg
    · rw [e]; have := hlt g hg; simp; omega

/-- The 'i'-th byte. -/
def outF (out : List Int) (i : Nat) : Int := out.getD i 0
theorem own_view {w : World} {base : Nat} {v : Value} {out : List Int} (h : w.ownsRow base 5 1 v out.length (out.map (Value.int .u8))) : ∃ a c, v = .slice a out.length c ∧ Holds w a out.length (fun i => .int .u8 (outF out i)) := by
  rcases id h.2 with ⟨rfl, e⟩ | ⟨g, cap, cur, rfl, _⟩
  · exact ⟨none, 0, by rw [e], fun i hi => by omega⟩
  · refine ⟨_, _, rfl, fun i hi => ⟨g, 0, rfl, ?_⟩⟩
    rw [Nat.zero_add, h.cellAt i (by omega)]
    simp [outF, hi]
theorem outF_head {k : Nat} {s : St} (h : Good k s) (hl : 0 < s.out.length) : outF s.out 0 = 0 := by
  rcases h.head with ⟨e, _⟩ | ⟨r, e⟩
  · rw [e] at hl; simp at hl
  · rw [e]; rfl
end Go.Proofs.Qxb6605628aR
