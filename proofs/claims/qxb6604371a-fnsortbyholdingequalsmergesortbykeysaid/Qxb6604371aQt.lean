import Derived.BigQuiet
import Derived.StillTail
import Derived.Sort.Grow
namespace Go.Proofs.Qxb6604371a

section
variable {P : Program} {ops : Array Oper} {C : World → Prop} {n : Nat}

/-- Whatever order is picked: the first 'n' operations, each quiet in the class; then 'L'. -/
def headQ (P : Program) (ops : Array Oper) (C : World → Prop) (n : Nat) (L : Array Bool → Act → Prop) : Nat → Array Bool → Act → Prop
  | 0, li, a => L li a
  | f + 1, li, a => Region.ready .any ops li ≠ [] ∧ ∀ i ∈ Region.ready .any ops li, i < n ∧ qOp P ops C i (headQ P ops C n L f (li.setIfInBounds i true)) a

theorem any_of_headQ {g : Nat} {L : Array Bool → Act → Prop} {Q : Exit → Act → World → Prop} (hL : ∀ li a w, C w → L li a → wpAny P .any ops Q g li a w) :
    ∀ (f : Nat) (li : Array Bool) (a : Act) (w : World), C w → headQ P ops C n L f li a → wpAny P .any ops Q (f + g) li a w := by
  intro f
  induction f with
  | zero => intro li a w hw h; rw [Nat.zero_add]; exact hL li a w hw h
  | succ f ih =>
    intro li a w hw h
    rw [Nat.add_right_comm]
    exact ⟨fun h0 => absurd h0 h.1, fun i hi => wpOp_of_qOp hw (fun a' w' hw' h' => ih _ a' w' hw' h') (h.2 i hi).2⟩

/-- An operation that may come up now and waits for nobody's sake may be taken first. -/
theorem headQ_first {i : Nat} {oi : Oper} {v : Value} {L : Array Bool → Act → Prop} (hi : ops[i]? = some oi) (hsel : Region.noSelect ops = true)
    (hs : Region.sinkB .any ops n = true) (hc : Region.chainB .any ops n = true) (hn : n < ops.size) (hin : i < n) (hdone : ∀ li a, L li a → ∀ j ∈ Region.ready .any ops li, n ≤ j) :
    ∀ (f : Nat) (li : Array Bool) (a : Act), HeadInv .any ops n li →
      (∀ j oj, ops[j]? = some oj → j ≠ i → li.getD j true = false → (∀ e ∈ oj.after, Region.binds .any e = true → e.on ≠ i) → oi.apart ops oj = true) →
      i ∈ Region.ready .any ops li → YieldsIn P ops C oi v a → headQ P ops C n L f (li.setIfInBounds i true) (a.put oi.dst v) → headQ P ops C n L (f + 1) li a := by
  have sel := Region.noSelect_spec hsel
  intro f
  induction f with
  | zero =>
    intro li a inv _ hr hy H
    have hun := (mem_ready.1 hr).1
    refine ⟨fun h => (by rw [h] at hr; cases hr), fun j hj => ?_⟩
    have hjn : j < n := Nat.lt_of_not_le fun h => tail_waits hs hc hn inv _ i rfl hin hun j h hj
    refine ⟨hjn, ?_⟩
    by_cases e : j = i
    · subst e; exact hy.qOp hi H
    · exact absurd (hdone _ _ H j (ready_mono hj e)) (Nat.not_le_of_lt hjn)
  | succ f ih =>
    intro li a inv free hr hy H
    have hun := (mem_ready.1 hr).1
    refine ⟨fun h => (by rw [h] at hr; cases hr), fun j hj => ?_⟩
    have hjn : j < n := Nat.lt_of_not_le fun h => tail_waits hs hc hn inv _ i rfl hin hun j h hj
    refine ⟨hjn, ?_⟩
    by_cases e : j = i
    · subst e; exact hy.qOp hi H
    · have h1 := (H.2 j (ready_mono hj e)).2
      obtain ⟨hjun, oj, hoj, hall⟩ := mem_ready.1 hj
      have hnot : ∀ d ∈ oj.after, Region.binds .any d = true → d.on ≠ i := fun d hd hb he => by
        have h2 := hall d hd hb
        rw [he, getD_both hun] at h2
        cases h2
      have h2 := qOp_put hoj (free j oj hoj e hjun hnot) (fun cs b => sel i oi cs b hi) (fun cs b => sel j oj cs b hoj) hy h1
      refine qOp_mono (fun a' h3 => ih (li.setIfInBounds j true) a' (inv.set hj hjn) ?_ (ready_mono hr (Ne.symm e)) h3.1 ?_) h2
      · intro k ok hk hki hk2 hno
        refine free k ok hk hki ?_ hno
        by_cases q : j = k
        · subst q; exact hjun
        · rw [getD_set_ne true q] at hk2; exact hk2
      · rw [Array.setIfInBounds_comm _ _ e]
        exact h3.2

theorem headQ_lex {g : Nat} {R : Act → Prop} (hsel : Region.noSelect ops = true) (hs : Region.sinkB .any ops n = true) (hc : Region.chainB .any ops n = true) (hn : n < ops.size) :
    ∀ (l : List Oper) (k : Nat) (li : Array Bool) (a : Act), (∀ j, j < l.length → l[j]? = ops[k + j]?) → k + l.length = n → HeadInv .any ops n li →
    Region.lexHead .any ops g l.length k li = true → wpQuiet P ops C R l a →
    headQ P ops C n (fun li' a' => Region.seqB .any ops g n li' = true ∧ R a') l.length li a := by
  intro l
  induction l with
  | nil =>
    intro k li a _ hk _ hB h
    obtain rfl : k = n := by simpa using hk
    exact ⟨by simpa [Region.lexHead] using hB, h⟩
  | cons o l ih =>
    intro k li a hl hk inv hB h
    have h0 : ops[k]? = some o := by simpa using (hl 0 (by simp)).symm
    simp only [List.length_cons, Region.lexHead, Bool.and_eq_true] at hB
    obtain ⟨⟨hr, hf⟩, hB'⟩ := hB
    simp only [List.length_cons] at hk
    have hkn : k < n := by omega
    have hr' : k ∈ Region.ready .any ops li := by simpa using hr
    have hst : qOp P ops C k (wpQuiet P ops C R l) a := by unfold qOp; simp only [h0]; exact h
    obtain ⟨v, hy, hK⟩ := yieldsIn_of_qOp h0 hst
    refine headQ_first h0 hsel hs hc hn hkn (fun li' a' hL => seqB_ready hL.1) l.length li a inv (Region.free_spec h0 hf) hr' hy ?_
    refine ih (k + 1) _ _ (fun j hj => ?_) (by omega) (inv.set hr' hkn) hB' hK
    have := hl (j + 1) (by simp; omega)
    simpa [Nat.add_assoc, Nat.add_comm 1 j] using this
end

/-- A region that draws its order: its first 'n' operations quiet in a class of worlds, its last ones forced to come last, in the text's order: one walk serves every order. -/
theorem region_quiet_tail {P : Program} {C : World → Prop} {id : Nat} {Q : Exit → Act → World → Prop} {a : Act} {w : World} {l : List Oper} (n : Nat) (hm : P.follows .mixedOrders = true) (hB : Region.lexTailB .any l.toArray n = true)
    (hC : C { w with drawn := w.drawn + 1 }) (h : wpQuiet P l.toArray C (fun a' => ∀ w', C w' → wpList P l.toArray Q (l.drop n) a' w') (l.take n) a) : (Code.region id l.toArray true).wp P Q a w := by
  simp only [Region.lexTailB, Bool.and_eq_true, decide_eq_true_eq] at hB
  obtain ⟨⟨⟨⟨hsel, hn⟩, hs⟩, hc⟩, hlex⟩ := hB
  have hn' : n < l.length := by simpa using hn
  have e1 : (l.take n).length = n := by simp; omega
  have e2 : (l.drop n).length = l.toArray.size - n := by simp
  have inv0 : HeadInv .any l.toArray n (Array.replicate l.toArray.size false) :=
    ⟨by simp, fun j oj _ hl => (by rw [getD_replicate_false] at hl; cases hl), fun t _ ht => getD_in (by simpa using ht) (getD_replicate_false _ _)⟩
  have H := headQ_lex (C := C) (g := l.toArray.size - n) hsel hs hc hn (l.take n) 0 _ a (fun j hj => by
    rw [e1] at hj
    simp [hj]) (by simpa using e1) inv0 (by rw [e1]; exact hlex) h
  refine wp_region_any hm ?_
  have T := any_of_headQ (Q := Q) (g := l.toArray.size - n) (fun li a' w' hw' hL => by
    have := wpAny_of_seq (md := .any) (Q' := Q) (l.drop n) n li a' w' (fun j => by simp [List.getElem?_drop]) (by rw [e2]; exact hL.1) (hL.2 w' hw')
    rwa [e2] at this) _ _ _ _ hC H
  rw [e1, show n + (l.toArray.size - n) = l.toArray.size by omega] at T
  exact T

/-- How many draws on, and which new blocks behind. -/
structure Far where
  draws : Nat
  more : Array Obj
instance : Inhabited Far := ⟨⟨0, #[]⟩⟩

/-- The world 'w', some draws on and with new blocks behind. -/
def stray (w : World) (s : Far) : World := Go.Sort.grow (w.drewN s.draws) s.more

theorem stray_one (w : World) : { w with drawn := w.drawn + 1 } = stray w ⟨1, #[]⟩ := by
  unfold stray; rw [Go.Sort.grow_empty]; rfl
theorem stray_alloc (w : World) (s : Far) (o : Obj) : (stray w s).alloc o = stray w ⟨s.draws, s.more ++ #[o]⟩ := by
  unfold stray; rw [Go.Sort.alloc_eq_grow, Go.Sort.grow_grow]
theorem stray_two (w : World) (o1 o2 : Obj) : (w.alloc o1).alloc o2 = stray w ⟨0, #[o1] ++ #[o2]⟩ := by
  rw [Go.Sort.alloc_eq_grow, Go.Sort.alloc_eq_grow, Go.Sort.grow_grow]; rfl
theorem stray_drew (w : World) (s : Far) (q : Nat) : (stray w s).drewN q = stray w ⟨s.draws + q, s.more⟩ := by
  simp [stray, Go.Sort.grow, World.drewN, Nat.add_assoc]
theorem stray_stray (w : World) (s t : Far) : stray (stray w s) t = stray w ⟨s.draws + t.draws, s.more ++ t.more⟩ := by
  simp [stray, Go.Sort.grow, World.drewN, Nat.add_assoc]
theorem stray_block (w : World) (s : Far) {B : Nat} (h : B < w.heap.size) : (stray w s).heap[B]? = w.heap[B]? := Go.Sort.heap_grow_old (w.drewN s.draws) s.more h
theorem stray_cell {w : World} {a : Addr} {v : Value} (h : w.cell? a = some v) (hl : a.block < w.heap.size) (s : Far) : (stray w s).cell? a = some v :=
  (Go.Sort.cell?_grow (w.drewN s.draws) s.more a hl).trans h
theorem stray_free {w : World} {a : Addr} (h : w.frozen? a = false) (hl : a.block < w.heap.size) (s : Far) : (stray w s).frozen? a = false :=
  (Go.Sort.frozen?_grow (w.drewN s.draws) s.more a hl).trans h
theorem stray_size (w : World) (s : Far) : w.heap.size ≤ (stray w s).heap.size := by
  unfold stray; rw [Go.Sort.size_grow]; exact Nat.le_add_right _ _

/-- .. at the class of such worlds. -/
theorem region_quiet_store {P : Program} {id : Nat} {Q : Exit → Act → World → Prop} {a : Act} {w : World} {l : List Oper} (n : Nat) (hm : P.follows .mixedOrders = true) (hB : Region.lexTailB .any l.toArray n = true)
    (h : wpQuiet P l.toArray (fun w' => ∃ s, w' = stray w s) (fun a' => ∀ w', (∃ s, w' = stray w s) → wpList P l.toArray Q (l.drop n) a' w') (l.take n) a) : (Code.region id l.toArray true).wp P Q a w :=
  region_quiet_tail (C := fun w' => ∃ s, w' = stray w s) n hm hB ⟨_, stray_one w⟩ h

/-- .. a region that writes nothing of old. -/
theorem region_quiet_grow {P : Program} {id : Nat} {Q : Exit → Act → World → Prop} {a : Act} {w : World} {l : List Oper} (hm : P.follows .mixedOrders = true) (hB : Region.lexB .any l.toArray = true)
    (h : wpQuiet P l.toArray (fun w' => ∃ s, w' = stray w s) (fun a' => ∀ w', (∃ s, w' = stray w s) → Q .normal a' w') l a) : (Code.region id l.toArray true).wp P Q a w :=
  wp_region_quiet (C := fun w' => ∃ s, w' = stray w s) hm hB ⟨_, stray_one w⟩ (by simpa using h)

/-- A contract, met in a world that has strayed. -/
theorem stray_call {P : Program} {f : FuncId} {args : Array Value} {w : World} {s : Far} {v : Value} (h : Calls P f args (stray w s) fun e w' => e = .returned v ∧ ∃ t, w' = stray (stray w s) t) :
    Calls P f args (stray w s) fun e w' => e = .returned v ∧ ∃ t, w' = stray w t :=
  h.mono fun _ _ ⟨he, _, ht⟩ => ⟨he, _, ht.trans (stray_stray _ _ _)⟩
end Go.Proofs.Qxb6604371a
