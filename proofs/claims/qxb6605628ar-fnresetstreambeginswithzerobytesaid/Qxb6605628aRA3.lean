import Derived.Test.Qxb6605628aRA2
import Derived.Deep.QuietTactic
import Derived.BigQuiet
import Derived.RegionTactic
import Derived.BigRegion
import Derived.WalkSmall
namespace Go.Proofs.Qxb6605628aR
open Go.RowKit

/-- The plain state of an encoder. -/
structure St where
  low : Int
  rng : Int
  cache : Int
  cs : Nat
  out : List Int

def shiftS (s : St) : St :=
  if s.low % 4294967296 < 4278190080 ∨ 4294967296 ≤ s.low then ⟨s.low % 4294967296 * 256 % 4294967296, s.rng, s.low / 16777216 % 256, 1, s.out ++ fl s.cache (s.low / 4294967296) s.cs⟩
  else ⟨s.low * 256 % 4294967296, s.rng, s.cache, s.cs + 1, s.out⟩

def bitP (p b : Int) : Int := if b = 0 then p + (2048 - p) / 32 else p - p / 32
/-- The state ahead of the normalisation. -/
def preS (s : St) (p b : Int) : St := if b = 0 then ⟨s.low, s.rng / 2048 * p, s.cache, s.cs, s.out⟩ else ⟨s.low + s.rng / 2048 * p, s.rng - s.rng / 2048 * p, s.cache, s.cs, s.out⟩
def bitS (s : St) (p b : Int) : St := if (preS s p b).rng < 16777216 then shiftS ⟨(preS s p b).low, (preS s p b).rng * 256, (preS s p b).cache, (preS s p b).cs, (preS s p b).out⟩ else preS s p b

/-- What holds of the state after 'k' bits. -/
structure Good (k : Nat) (s : St) : Prop where
  low0 : 0 ≤ s.low
  sum : s.low + s.rng ≤ 8589934592
  rng0 : 16777216 ≤ s.rng
  rng1 : s.rng < 4294967296
  cache0 : 0 ≤ s.cache
  cache1 : s.cache < 256
  cs1 : 1 ≤ s.cs
  len : s.out.length + s.cs ≤ k + 1
  head : (s.out = [] ∧ s.cache = 0 ∧ s.low + s.rng ≤ 4294967296) ∨ ∃ r, s.out = 0 :: r

theorem fl_cons (cache carry : Int) (j : Nat) : ∃ r, fl cache carry (j + 1) = (cache + carry) % 256 :: r := by
  induction j with
  | zero => exact ⟨[], rfl⟩
  | succ j ih =>
    obtain ⟨r, hr⟩ := ih
    exact ⟨r ++ [(bj cache (j + 1) + carry) % 256], by rw [fl_succ, hr]; rfl⟩

theorem bound_facts {rng p : Int} (r0 : 16777216 ≤ rng) (r1 : rng < 4294967296) (p0 : 31 ≤ p) (p1 : p ≤ 2017) : 253952 ≤ rng / 2048 * p ∧ 253952 ≤ rng - rng / 2048 * p ∧ rng / 2048 * p < 4294967296 := by
  have h1 : 8192 ≤ rng / 2048 := by omega
  have h2 : rng / 2048 * 2048 ≤ rng := by omega
  have h3 : rng / 2048 * 31 ≤ rng / 2048 * p := Int.mul_le_mul_of_nonneg_left p0 (by omega)
  have h4 : rng / 2048 * p ≤ rng / 2048 * 2017 := Int.mul_le_mul_of_nonneg_left p1 (by omega)
  omega

/-- What a shift makes of a state that is ready for it. -/
theorem good_shift {k : Nat} {s : St} (l0 : 0 ≤ s.low) (r0 : 65536 ≤ s.rng) (r1 : s.rng < 16777216) (c0 : 0 ≤ s.cache) (c1 : s.cache < 256) (s1 : 1 ≤ s.cs) (ln : s.out.length + s.cs ≤ k + 1)
    (hd : (s.out = [] ∧ s.cache = 0 ∧ s.low + s.rng ≤ 4294967296) ∨ ∃ r, s.out = 0 :: r) : Good (k + 1) (shiftS ⟨s.low, s.rng * 256, s.cache, s.cs, s.out⟩) := by
  unfold shiftS
  dsimp only
  obtain ⟨n, hn⟩ : ∃ n, s.cs = n + 1 := ⟨s.cs - 1, by omega⟩
  split
  · refine ⟨by dsimp only; omega, by dsimp only; omega, by dsimp only; omega, by dsimp only; omega, by dsimp only; omega, by dsimp only; omega, by dsimp only; omega, by dsimp only; rw [List.length_append, fl_length]; omega, ?_⟩
    refine .inr ?_
    dsimp only
    rcases hd with ⟨h1, h2, h3⟩ | ⟨r, hr⟩
    · rw [h1, h2, hn]
      obtain ⟨r, hr⟩ := fl_cons 0 (s.low / 4294967296) n
      rw [hr]
      exact ⟨r, by rw [show (0 + s.low / 4294967296) % 256 = 0 by omega]; rfl⟩
    · rw [hr]; exact ⟨_, rfl⟩
  · refine ⟨by dsimp only; omega, by dsimp only; omega, by dsimp only; omega, by dsimp only; omega, by dsimp only; omega, by dsimp only; omega, by dsimp only; omega, by dsimp only; omega, ?_⟩
    dsimp only
    rcases hd with ⟨h1, h2, h3⟩ | ⟨r, hr⟩
    · exact .inl ⟨h1, h2, by omega⟩
    · exact .inr ⟨r, hr⟩

theorem good_pre {k : Nat} {s : St} (h : Good k s) {p b : Int} (p0 : 31 ≤ p) (p1 : p ≤ 2017) : 0 ≤ (preS s p b).low ∧ (preS s p b).low + (preS s p b).rng ≤ 8589934592 ∧ 65536 ≤ (preS s p b).rng ∧ (preS s p b).rng < 4294967296 ∧ (preS s p b).cache = s.cache ∧ (preS s p b).cs = s.cs ∧ (preS s p b).out = s.out ∧
    ((s.out = [] ∧ s.cache = 0 ∧ (preS s p b).low + (preS s p b).rng ≤ 4294967296) ∨ ∃ r, s.out = 0 :: r) := by
  have hb := bound_facts h.rng0 h.rng1 p0 p1
  have h1 := h.low0
  have h2 := h.sum
  have h3 := h.rng0
  have h4 := h.rng1
  have h5 := h.head
  unfold preS
  split
  · refine ⟨by dsimp only; omega, by dsimp only; omega, by dsimp only; omega, by dsimp only; omega, rfl, rfl, rfl, ?_⟩
    rcases h5 with ⟨a, b, c⟩ | h5
    · exact .inl ⟨a, b, by dsimp only; omega⟩
    · exact .inr h5
  · refine ⟨by dsimp only; omega, by dsimp only; omega, by dsimp only; omega, by dsimp only; omega, rfl, rfl, rfl, ?_⟩
    rcases h5 with ⟨a, b, c⟩ | h5
    · exact .inl ⟨a, b, by dsimp only; omega⟩
    · exact .inr h5

theorem good_bit {k : Nat} {s : St} (h : Good k s) {p b : Int} (p0 : 31 ≤ p) (p1 : p ≤ 2017) : Good (k + 1) (bitS s p b) := by
  obtain ⟨a1, a2, a3, a4, a5, a6, a7, a8⟩ := good_pre h (b := b) p0 p1
  unfold bitS
  split
  · refine good_shift a1 a3 (by assumption) (by rw [a5]; exact h.cache0) (by rw [a5]; exact h.cache1) (by rw [a6]; exact h.cs1) (by rw [a6, a7]; exact h.len) ?_
    rw [a5, a7]; exact a8
  · exact ⟨a1, a2, by omega, a4, by rw [a5]; exact h.cache0, by rw [a5]; exact h.cache1, by rw [a6]; exact h.cs1, by rw [a6, a7]; have := h.len; omega, by rw [a5, a7]; exact a8⟩
end Go.Proofs.Qxb6605628aR
