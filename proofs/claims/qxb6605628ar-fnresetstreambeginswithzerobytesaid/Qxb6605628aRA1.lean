import Derived.Test.Qxb6605628aRMem
import Derived.Test.Qxb6605628aRProg
import Derived.Lib.SliceRun
namespace Go.Proofs.Qxb6605628aR
open Go.RowKit

/-- Behind an append of one element the slice lies where it lay, or in the one new block. -/
theorem append_block {P : Program} (w : World) (base : Nat) (t ty e : TypeId) (i : TypeInfo) (z : Value) (bytes : Nat) (ht : P.underlying t = some (.slice e)) (hi : P.info? e = some i) (hz : i.zero = some z)
    (hsize : i.size = 1) (hby : i.bytes = bytes) (v : Value) (n : Nat) (xs : List Value) (hown : w.ownsRow base e 1 v n xs)
    (a : Addr) (c : Nat) (x : Value) (hx : w.cell? a = some x) (h1 : x.oneCell' = true) (h63 : n + 1 ≤ maxLen) (hbytes : (n + 1) * bytes ≤ 140737488355328) {v' : Value} {w' : World}
    (hr : (Builtin.append_ #[t, t] ty #[v, .slice (some a) 1 c]).run P w = .ok v' w') : v'.ownBlock = v.ownBlock ∨ v'.ownBlock = some w.heap.size := by
  have hl : [x].length = 1 * i.size := by simp [hsize]
  have hnews : ∀ j u, [x][j]? = some u → w.cell? (a.add j) = some u := by
    intro j u hj
    match j, hj with
    | 0, hj => simp at hj; subst hj; simpa [Addr.add] using hx
  have h63' : ((n + 1 : Nat) : Int) ≤ 9223372036854775807 := by simp only [maxLen] at h63; omega
  rcases hown.2 with ⟨rfl, rfl⟩ | ⟨g, cap, cur, rfl, _, hg, hnc, hcm, hcs, htake⟩
  · have hq := run_append_nil (P := P) w t ty e i z ht hi hz a 1 c [x] hl hnews (by omega) (by omega) (by rw [hby]; omega)
    rw [hq] at hr
    simp only [Result.ok.injEq] at hr
    obtain ⟨rfl, _⟩ := hr
    exact .inr rfl
  · by_cases hroom : n + 1 ≤ cap
    · have hq := run_append_room (P := P) w t ty e i ht hi g n cap cur hg a 1 c [x] hl hnews (by intro u hu; simp at hu; subst hu; exact h1) hroom (by simp [hsize]; omega)
      rw [hq] at hr
      simp only [Result.ok.injEq] at hr
      obtain ⟨rfl, _⟩ := hr
      exact .inl rfl
    · have holds : ∀ j u, xs[j]? = some u → w.cell? ((⟨g, 0, none⟩ : Addr).add j) = some u := hown.cells (g := g) rfl
      have hq := run_append_grow (P := P) w t ty e i z ht hi hz ⟨g, 0, none⟩ n cap xs (by rw [hsize]; exact hown.1) holds a 1 c [x] hl hnews (by omega) h63' (by rw [hby]; exact growslice_fits (by omega) hbytes)
      rw [hq] at hr
      simp only [Result.ok.injEq] at hr
      obtain ⟨rfl, _⟩ := hr
      exact .inr rfl

/-- 'append' of one element to a slice of the call's own, with where it lies behind. -/
theorem wpList_append_apart {P : Program} (w : World) {ops : Array Oper} {rest : List Oper} {o : Oper} {a : Act} {Q : Exit → Act → World → Prop} (hgd : o.guard = none) (s x : Operand) (t : TypeId)
    (ho : o.op = .call { callee := .builtin .append, args := #[s, x], argTypes := #[t, t] })
    (base : Nat) (e : TypeId) (i : TypeInfo) (z : Value) (bytes : Nat) (ht : P.underlying t = some (.slice e)) (hi : P.info? e = some i) (hz : i.zero = some z)
    (hsize : i.size = 1) (hby : i.bytes = bytes) (hzs : z.cells.size = 1)
    (v : Value) (n : Nat) (xs : List Value) (hs : a.eval s = v) (hown : w.ownsRow base e 1 v n xs)
    (ad : Addr) (c : Nat) (u : Value) (hx : a.eval x = .slice (some ad) 1 c) (hu : w.cell? ad = some u) (h1 : u.oneCell' = true)
    (h63 : n + 1 ≤ maxLen) (hbytes : (n + 1) * bytes ≤ 140737488355328) (hbase : base ≤ w.heap.size)
    (h : ∀ v' w', w'.ownsRow base e 1 v' (n + 1) (xs ++ [u]) → w.grownBy w' v.ownBlock → (v'.ownBlock = v.ownBlock ∨ v'.ownBlock = some w.heap.size) → wpList P ops Q rest (a.put o.dst v') w') : wpList P ops Q (o :: rest) a w := by
  refine wpList_plain hgd fun K hK => ?_
  have hnews : ∀ j y, [u][j]? = some y → w.cell? (ad.add j) = some y := by
    intro j y hj
    match j, hj with
    | 0, hj => simp at hj; subst hj; simpa [Addr.add] using hu
  obtain ⟨v', w', hr, h2, h3, _⟩ := run_append_own (P := P) w base t o.type e i z 1 bytes ht hi hz hsize hby hzs (by omega) v n xs hown ad 1 c [u] (by simp) hnews (by intro y hy; simp at hy; subst hy; exact h1) h63 hbytes hbase
  have h4 := append_block w base t o.type e i z bytes ht hi hz hsize hby v n xs hown ad c u hu h1 h63 hbytes hr
  unfold Oper.wp execOp
  simp only [ho, resolve, invoke, builtin, Sem.run_bind, Sem.run_pure, Result.andThen_ok, List.map_toArray, List.map_cons, List.map_nil, hs, hx, hr]
  exact hK _ _ (h v' w' h2 h3 h4)

/-- Between 'w' and 'w'' only block 'B', the row of 'v' and new blocks have turned; the row of 'v'' is that of 'v' or a new one. -/
structure Only (w w' : World) (B : Nat) (v v' : Value) : Prop where
  os : w'.os = w.os
  tape : w'.tape = w.tape
  output : w'.output = w.output
  size : w.heap.size ≤ w'.heap.size
  block : ∀ k, k < w.heap.size → k ≠ B → some k ≠ v.ownBlock → w'.heap[k]? = w.heap[k]?
  place : v'.ownBlock = v.ownBlock ∨ ∃ k, w.heap.size ≤ k ∧ v'.ownBlock = some k

theorem Only.refl (w : World) (B : Nat) (v : Value) : Only w w B v v := ⟨rfl, rfl, rfl, Nat.le_refl _, fun _ _ _ _ => rfl, .inl rfl⟩
theorem Only.trans {a b c : World} {B : Nat} {v v1 v2 : Value} (h : Only a b B v v1) (k : Only b c B v1 v2) : Only a c B v v2 := by
  refine ⟨k.os.trans h.os, k.tape.trans h.tape, k.output.trans h.output, Nat.le_trans h.size k.size, fun i hi hb hv => ?_, ?_⟩
  · rw [k.block i (Nat.lt_of_lt_of_le hi h.size) hb ?_, h.block i hi hb hv]
    rcases h.place with e | ⟨g, hg, e⟩
    · rw [e]; exact hv
    · rw [e]; simp; omega
  · rcases k.place with e | ⟨g, hg, e⟩
    · rw [e]; exact h.place
    · exact .inr ⟨g, Nat.le_trans h.size hg, e⟩
theorem Only.alloc {a b : World} {B : Nat} {v v1 : Value} (h : Only a b B v v1) (o : Obj) : Only a (b.alloc o) B v v1 :=
  ⟨h.os, h.tape, h.output, by simp; have := h.size; omega, fun i hi hb hv => by rw [Below.heap_alloc _ _ _ (Nat.lt_of_lt_of_le hi h.size)]; exact h.block i hi hb hv, h.place⟩
theorem Only.drew {a b : World} {B : Nat} {v v1 : Value} (h : Only a b B v v1) : Only a b.drew B v v1 := ⟨h.os, h.tape, h.output, h.size, h.block, h.place⟩
theorem Only.setCell {a b : World} {B : Nat} {v v1 : Value} (h : Only a b B v v1) (j : Nat) (u : Value) : Only a (b.setCell ⟨B, j, none⟩ u) B v v1 :=
  ⟨h.os, h.tape, h.output, by rw [size_setCell]; exact h.size, fun i hi hb hv => by rw [Below.heap_setCell _ _ _ _ hb]; exact h.block i hi hb hv, h.place⟩
theorem Only.setNew {a b : World} {B : Nat} {v v1 : Value} (h : Only a b B v v1) {p : Addr} (hp : a.heap.size ≤ p.block) (u : Value) : Only a (b.setCell p u) B v v1 :=
  ⟨h.os, h.tape, h.output, by rw [size_setCell]; exact h.size, fun i hi hb hv => by rw [Below.heap_setCell _ _ _ _ (by omega)]; exact h.block i hi hb hv, h.place⟩
theorem Only.grown {a b c : World} {B : Nat} {v v1 v2 : Value} (h : Only a b B v v1) (hg : b.grownBy c v1.ownBlock) (hp : v2.ownBlock = v1.ownBlock ∨ v2.ownBlock = some b.heap.size) : Only a c B v v2 :=
  h.trans ⟨hg.os, hg.tape, hg.output, hg.size, fun k hk _ hv => hg.block k hk hv, by rcases hp with e | e; exact .inl e; exact .inr ⟨_, Nat.le_refl _, e⟩⟩
theorem Only.below {a b : World} {B C : Nat} {v v1 : Value} (h : Only a b B v v1) (hB : C ≤ B) (hv : ∀ k, v.ownBlock = some k → C ≤ k) (hC : C ≤ a.heap.size) : Below C a b :=
  ⟨h.os, h.tape, h.output, h.size, fun k hk => h.block k (by omega) (by omega) (fun e => by have := hv k e.symm; omega)⟩
end Go.Proofs.Qxb6605628aR
