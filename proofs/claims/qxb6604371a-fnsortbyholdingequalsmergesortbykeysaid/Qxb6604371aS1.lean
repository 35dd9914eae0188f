import Derived.Test.Qxb6604371aSh
import Derived.WalkKit
import Derived.WalkLawsBesides
import Derived.WideShapes
namespace Go.Proofs.Qxb6604371a

/-- A strict total order, as a Bool. -/
structure STO {α : Type} (lt : α → α → Bool) : Prop where
  irrefl : ∀ x, lt x x = false
  trans : ∀ x y z, lt x y = true → lt y z = true → lt x z = true
  tri : ∀ x y, lt x y = false → lt y x = false → x = y

theorem STO.swo {α : Type} {lt : α → α → Bool} (h : STO lt) : Go.Sort.SWO lt where
  irrefl := h.irrefl
  trans := h.trans
  ntrans x y z h1 h2 := by
    cases h3 : lt x z with
    | false => rfl
    | true =>
      cases h4 : lt y x with
      | true => rw [h.trans y x z h4 h3] at h2; exact absurd h2 (by simp)
      | false => rw [h.tri x y h1 h4] at h3; rw [h3] at h2; exact absurd h2 (by simp)

/-- Bytes, then the next. -/
def lex {α β : Type} [DecidableEq α] (r : α → α → Bool) (s : β → β → Bool) (x y : α × β) : Bool := if x.1 = y.1 then s x.2 y.2 else r x.1 y.1

theorem STO.lex {α β : Type} [DecidableEq α] {r : α → α → Bool} {s : β → β → Bool} (hr : STO r) (hs : STO s) : STO (lex r s) where
  irrefl x := by simp [Qxb6604371a.lex, hs.irrefl]
  trans x y z h1 h2 := by
    unfold Qxb6604371a.lex at *
    by_cases e1 : x.1 = y.1
    · by_cases e2 : y.1 = z.1
      · rw [if_pos e1] at h1; rw [if_pos e2] at h2; rw [if_pos (e1.trans e2)]; exact hs.trans _ _ _ h1 h2
      · rw [if_neg e2] at h2; rw [if_neg (fun e => e2 (e1.symm.trans e)), e1]; exact h2
    · by_cases e2 : y.1 = z.1
      · rw [if_neg e1] at h1; rw [if_neg (fun e => e1 (e.trans e2.symm)), ← e2]; exact h1
      · rw [if_neg e1] at h1; rw [if_neg e2] at h2
        have h3 := hr.trans _ _ _ h1 h2
        by_cases e3 : x.1 = z.1
        · rw [e3, hr.irrefl] at h3; exact absurd h3 (by simp)
        · rw [if_neg e3]; exact h3
  tri x y h1 h2 := by
    unfold Qxb6604371a.lex at *
    by_cases e : x.1 = y.1
    · rw [if_pos e] at h1; rw [if_pos e.symm] at h2
      exact Prod.ext e (hs.tri _ _ h1 h2)
    · rw [if_neg e] at h1; rw [if_neg (fun h => e h.symm)] at h2
      exact absurd (hr.tri _ _ h1 h2) e

theorem STO.pull {α β : Type} {r : α → α → Bool} (hr : STO r) (f : β → α) (hf : ∀ x y, f x = f y → x = y) : STO (fun x y => r (f x) (f y)) where
  irrefl _ := hr.irrefl _
  trans _ _ _ := hr.trans _ _ _
  tri _ _ h1 h2 := hf _ _ (hr.tri _ _ h1 h2)

theorem less_self (x : List UInt8) : Op.bytesLess x x = false := by
  induction x with
  | nil => rfl
  | cons a x ih => simp [Op.bytesLess, ih]

theorem u8_tri (a b : UInt8) (h1 : ¬ a < b) (h2 : ¬ b < a) : a = b := by
  rw [UInt8.lt_iff_toNat_lt] at h1 h2
  exact UInt8.toNat_inj.1 (by omega)

theorem sto_bytes : STO Op.bytesLess where
  irrefl := less_self
  trans x y z := by
    induction x generalizing y z with
    | nil =>
      intro h1 h2
      cases y with
      | nil => simp [Op.bytesLess] at h1
      | cons b y => cases z with
        | nil => simp [Op.bytesLess] at h2
        | cons c z => simp [Op.bytesLess]
    | cons a x ih =>
      intro h1 h2
      cases y with
      | nil => simp [Op.bytesLess] at h1
      | cons b y => cases z with
        | nil => simp [Op.bytesLess] at h2
        | cons c z =>
          simp only [Op.bytesLess, Bool.or_eq_true, Bool.and_eq_true, decide_eq_true_eq, beq_iff_eq] at h1 h2 ⊢
          rcases h1 with h1 | ⟨rfl, h1⟩
          · rcases h2 with h2 | ⟨rfl, h2⟩
            · left; rw [UInt8.lt_iff_toNat_lt] at *; omega
            · left; exact h1
          · rcases h2 with h2 | ⟨rfl, h2⟩
            · left; exact h2
            · right; exact ⟨rfl, ih _ _ h1 h2⟩
  tri x y := by
    induction x generalizing y with
    | nil => intro h1 h2; cases y with
      | nil => rfl
      | cons b y => simp [Op.bytesLess] at h1
    | cons a x ih => intro h1 h2; cases y with
      | nil => simp [Op.bytesLess] at h2
      | cons b y =>
        have hab : a = b := by
          refine u8_tri a b (fun h => ?_) (fun h => ?_)
          · simp [Op.bytesLess, h] at h1
          · simp [Op.bytesLess, h] at h2
        subst hab
        have e1 : Op.bytesLess x y = false := by simpa [Op.bytesLess] using h1
        have e2 : Op.bytesLess y x = false := by simpa [Op.bytesLess] using h2
        rw [ih y e1 e2]

theorem sto_int : STO (fun a b : Int => decide (a < b)) where
  irrefl x := by simp
  trans x y z h1 h2 := by simp at *; omega
  tri x y h1 h2 := by simp at *; omega

/-- A lot: its account, its id, its channel, the day it was applied for. -/
abbrev Lot : Type := ByteArray × ByteArray × ByteArray × Int

/-- What the order reads of a lot, in the order in which it reads it. -/
def readOf (x : Lot) : List UInt8 × List UInt8 × Int × List UInt8 := (x.1.toList, x.2.2.1.toList, x.2.2.2, x.2.1.toList)

/-- The holding order. -/
def ltLot (x y : Lot) : Bool := lex Op.bytesLess (lex Op.bytesLess (lex (fun a b : Int => decide (a < b)) Op.bytesLess)) (readOf x) (readOf y)

theorem readOf_inj (x y : Lot) (h : readOf x = readOf y) : x = y := by
  obtain ⟨a, b, c, d⟩ := x
  obtain ⟨a', b', c', d'⟩ := y
  simp only [readOf, Prod.mk.injEq] at h
  obtain ⟨h1, h2, h3, h4⟩ := h
  rw [ByteArray.toList_eq, ByteArray.toList_eq] at h1 h2 h4
  rw [Go.WideShapes.bytes_inj h1, Go.WideShapes.bytes_inj h2, Go.WideShapes.bytes_inj h4, h3]

theorem sto_lot : STO ltLot := (sto_bytes.lex (sto_bytes.lex (sto_int.lex sto_bytes))).pull readOf readOf_inj

/-- Two sorted permutations of one row are one row. -/
theorem sorted_eq {x y x' y' : Array Lot} (hp : y.toList.Perm x.toList) (h1 : Go.Sort.PermIn 0 x.size x x') (h2 : Go.Sort.SortedIn ltLot 0 x.size x') (h3 : Go.Sort.PermIn 0 y.size y y') (h4 : Go.Sort.SortedIn ltLot 0 y.size y') : x' = y' := by
  have ex : x'.toList.Perm x.toList := by
    have := h1.2.2
    rw [show x'.extract 0 x.size = x' by rw [← h1.1]; exact Array.extract_size, Array.extract_size] at this
    exact this
  have ey : y'.toList.Perm y.toList := by
    have := h3.2.2
    rw [show y'.extract 0 y.size = y' by rw [← h3.1]; exact Array.extract_size, Array.extract_size] at this
    exact this
  have pw : ∀ (d d' : Array Lot), d'.size = d.size → Go.Sort.SortedIn ltLot 0 d.size d' → List.Pairwise (fun a b => (!ltLot b a) = true) d'.toList := by
    intro d d' hz hS
    rw [List.pairwise_iff_getElem]
    intro i j hi hj hij
    have hi' : i < d'.size := by simpa using hi
    have hj' : j < d'.size := by simpa using hj
    have := hS i j (Nat.zero_le _) hij (by omega)
    rw [getElem!_pos d' j hj', getElem!_pos d' i hi'] at this
    simpa using this
  have : x'.toList = y'.toList := by
    refine List.Perm.eq_of_pairwise (le := fun a b => (!ltLot b a) = true) ?_ (pw x x' h1.1 h2) (pw y y' h3.1 h4) (ex.trans (hp.symm.trans ey.symm))
    intro a b _ _ e1 e2
    simp only [Bool.not_eq_true'] at e1 e2
    exact sto_lot.tri a b e2 e1
  exact Array.toList_inj.1 this
end Go.Proofs.Qxb6604371a
