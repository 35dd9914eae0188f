import Derived.Test.Qxb6605628aRA1
import Derived.Deep.DeepCutAuto
import Derived.Deep.LoopGhost
namespace Go.Proofs.Qxb6605628aR
open Go.RowKit

/-- The cells of an encoder. -/
def cellsE (low rng cache cs : Int) (v : Value) : Array Value := #[.int .u64 low, .int .u32 rng, .int .u8 cache, .int .i64 cs, v]

/-- An encoder at block 'B', its bytes in a row of the call's own. -/
structure Enc (w : World) (base B : Nat) (low rng cache cs : Int) (v : Value) (out : List Int) : Prop where
  row : Row w B 79 (cellsE low rng cache cs v)
  own : w.ownsRow base 5 1 v out.length (out.map (Value.int .u8))
  ge : base ≤ B

theorem Enc.ne {w : World} {base B : Nat} {low rng cache cs : Int} {v : Value} {out : List Int} (h : Enc w base B low rng cache cs v out) : some B ≠ v.ownBlock := by
  intro e
  rcases h.own.2 with ⟨rfl, _⟩ | ⟨g, cap, cur, rfl, _, hg, _⟩
  · simp [Value.ownBlock] at e
  · simp [Value.ownBlock] at e
    subst e
    have hr := h.row
    unfold Row at hr
    rw [hg] at hr
    simp at hr

theorem Enc.put {w : World} {base B : Nat} {low rng cache cs low' rng' cache' cs' : Int} {v : Value} {out : List Int} (h : Enc w base B low rng cache cs v out) (j : Nat) (u : Value) (he : (cellsE low rng cache cs v).setIfInBounds j u = cellsE low' rng' cache' cs' v) :
    Enc (w.setCell ⟨B, j, none⟩ u) base B low' rng' cache' cs' v out :=
  ⟨by rw [← he]; exact h.row.set j u, ownsRow_setCell_other h.own (a := ⟨B, j, none⟩) (fun e => h.ne e.symm) u, h.ge⟩
theorem Enc.setLow {w : World} {base B : Nat} {low rng cache cs : Int} {v : Value} {out : List Int} (h : Enc w base B low rng cache cs v out) (x : Int) : Enc (w.setCell ⟨B, 0, none⟩ (.int .u64 x)) base B x rng cache cs v out := h.put 0 _ (by simp [cellsE])
theorem Enc.setRng {w : World} {base B : Nat} {low rng cache cs : Int} {v : Value} {out : List Int} (h : Enc w base B low rng cache cs v out) (x : Int) : Enc (w.setCell ⟨B, 1, none⟩ (.int .u32 x)) base B low x cache cs v out := h.put 1 _ (by simp [cellsE])
theorem Enc.setCache {w : World} {base B : Nat} {low rng cache cs : Int} {v : Value} {out : List Int} (h : Enc w base B low rng cache cs v out) (x : Int) : Enc (w.setCell ⟨B, 2, none⟩ (.int .u8 x)) base B low rng x cs v out := h.put 2 _ (by simp [cellsE])
theorem Enc.setCs {w : World} {base B : Nat} {low rng cache cs : Int} {v : Value} {out : List Int} (h : Enc w base B low rng cache cs v out) (x : Int) : Enc (w.setCell ⟨B, 3, none⟩ (.int .i64 x)) base B low rng cache x v out := h.put 3 _ (by simp [cellsE])

theorem Try.info5 : (Try.prog.info? 5).map (fun i => (i.zero, i.size, i.bytes)) = some (some (.int .u8 0), 1, 1) := by kernel_rfl

/-- The bytes that a flush lays down. -/
def fl (cache carry : Int) : Nat → List Int
  | 0 => []
  | 1 => [(cache + carry) % 256]
  | j + 2 => fl cache carry (j + 1) ++ [(255 + carry) % 256]

/-- The byte that stands in 'b' after 'j' rounds. -/
def bj (cache : Int) : Nat → Int
  | 0 => cache
  | _ + 1 => 255
theorem fl_succ (cache carry : Int) (j : Nat) : fl cache carry (j + 1) = fl cache carry j ++ [(bj cache j + carry) % 256] := by
  cases j <;> rfl
theorem fl_length (cache carry : Int) (j : Nat) : (fl cache carry j).length = j := by
  induction j with
  | zero => rfl
  | succ j ih => rw [fl_succ]; simp [ih]

/-- One round of a flush: what is known of the encoder behind it. -/
theorem flush_step {w wr w1 : World} {base B : Nat} {low rng cache c1 c2 : Int} {v vj v' : Value} {o1 : List Int} {x : Int} (hE : Enc wr base B low rng cache c1 vj o1) (hO : Only w wr B v vj) (o : Obj)
    (hown : w1.ownsRow base 5 1 v' (o1.length + 1) (o1.map (Value.int .u8) ++ [.int .u8 x])) (hg : (wr.alloc o).grownBy w1 vj.ownBlock) (hp : v'.ownBlock = vj.ownBlock ∨ v'.ownBlock = some (wr.alloc o).heap.size) :
    Enc ((w1.setCell ⟨B, 4, none⟩ v').setCell ⟨B, 3, none⟩ (.int .i64 c2)) base B low rng cache c2 v' (o1 ++ [x]) ∧ Only w ((w1.setCell ⟨B, 4, none⟩ v').setCell ⟨B, 3, none⟩ (.int .i64 c2)) B v v' := by
  have hr : Row w1 B 79 (cellsE low rng cache c1 vj) := by
    unfold Row
    rw [hg.block B (by have := hE.row.lt; simp; omega) hE.ne]
    exact hE.row.alloc o
  have hne : v'.ownBlock ≠ some B := by
    rcases hp with e | e
    · rw [e]; exact fun h => hE.ne h.symm
    · rw [e]; have := hE.row.lt; simp; omega
  refine ⟨⟨?_, ?_, hE.ge⟩, ?_⟩
  · have := (hr.set 4 v').set 3 (.int .i64 c2)
    simpa [cellsE] using this
  · have h1 := ownsRow_setCell_other hown (a := ⟨B, 4, none⟩) hne v'
    have h2 := ownsRow_setCell_other h1 (a := ⟨B, 3, none⟩) hne (.int .i64 c2)
    simpa using h2
  · exact (((hO.alloc o).grown hg hp).setCell 4 _).setCell 3 _

theorem flush_row {wr w1 : World} {base B : Nat} {low rng cache c1 : Int} {vj : Value} {o1 : List Int} (hE : Enc wr base B low rng cache c1 vj o1) (o : Obj) (hg : (wr.alloc o).grownBy w1 vj.ownBlock) : Row w1 B 79 (cellsE low rng cache c1 vj) := by
  unfold Row
  rw [hg.block B (by have := hE.row.lt; simp; omega) hE.ne]
  exact hE.row.alloc o

theorem bj_bound (cache : Int) (h0 : 0 ≤ cache) (h1 : cache < 256) (j : Nat) : 0 ≤ bj cache j ∧ bj cache j < 256 := by
  cases j <;> simp [bj] <;> omega

set_option maxHeartbeats 400000 in
theorem shiftFlush (base B : Nat) (low rng cache : Int) (cs : Nat) (v : Value) (out : List Int) (w : World) (h : Enc w base B low rng cache cs v out) (l0 : 0 ≤ low) (l1 : low < 8589934592) (hc0 : 0 ≤ cache) (hc1 : cache < 256) (s1 : 1 ≤ cs) (s2 : cs ≤ 5000) (ol : out.length ≤ 5000)
    (q : low % 4294967296 < 4278190080 ∨ 4294967296 ≤ low) :
    Calls Try.prog 45 #[.pointer (some ⟨B, 0, none⟩)] w fun e w' => e = .returned (.tuple #[]) ∧
      ∃ v', Enc w' base B (low % 4294967296 * 256 % 4294967296) rng (low / 16777216 % 256) 1 v' (out ++ fl cache (low / 4294967296) cs) ∧ Only w w' B v v' := by
  have c0 : w.cell? ⟨B, 0, none⟩ = some (.int .u64 low) := by rw [h.row.cell]; simp [cellsE]
  have c2 : w.cell? ⟨B, 2, none⟩ = some (.int .u8 cache) := by rw [h.row.cell]; simp [cellsE]
  go_enter Try.func45, Try.ntmps45
  go_upto_region 0 with fail
  go_cut [17] (fun b wx => b = .bool true ∧ wx = w)
  case first =>
    clear h
    by_cases q1 : low % 4294967296 < 4278190080
    · go_wp2
      go_meet
      case rel => exact ⟨rfl, rfl⟩
    · have q2 : 4294967296 ≤ low := by omega
      have q3 : ((low / 4294967296) != 0) = true := by simp; omega
      go_wp2
      go_meet
      case rel => exact ⟨rfl, rfl⟩
  case rest =>
    obtain ⟨rfl, rfl⟩ := hcut
    go_wp2
    clear c0 c2
    obtain ⟨i0, hi, hz0, hz1, hz2⟩ := info_parts Try.info5
    have hk0 : 0 ≤ low / 4294967296 := by omega
    have hk1 : low / 4294967296 < 2 := by omega
    go_loopg [3] cs (fun gk b wr => ∃ j : Nat, j ≤ cs ∧ gk = cs - j ∧ b = .int .u8 (bj cache j) ∧ ∃ vj, Enc wr base B low rng cache ((cs : Int) - (j : Int)) vj (out ++ fl cache (low / 4294967296) j) ∧ Only wc wr B v vj)
    case atStart => exact ⟨0, Nat.zero_le _, rfl, rfl, v, by simpa [fl] using h, Only.refl _ _ _⟩
    case round =>
      obtain ⟨j, hj, rfl, rfl, vj, hE, hO⟩ := hrel
      obtain ⟨bb0, bb1⟩ := bj_bound cache hc0 hc1 j
      have d3 : wr.cell? ⟨B, 3, none⟩ = some (.int .i64 ((cs : Int) - (j : Int))) := by rw [hE.row.cell]; simp [cellsE]
      have d4 : wr.cell? ⟨B, 4, none⟩ = some vj := by rw [hE.row.cell]; simp [cellsE]
      have d0 : wr.cell? ⟨B, 0, none⟩ = some (.int .u64 low) := by rw [hE.row.cell]; simp [cellsE]
      have hBl := hE.row.lt
      by_cases hlt : j < cs
      · obtain ⟨o1, ho1⟩ : ∃ o1, out ++ fl cache (low / 4294967296) j = o1 := ⟨_, rfl⟩
        have hle : o1.length ≤ 10000 := by rw [← ho1, List.length_append, fl_length]; omega
        have Ho : Hid (o1 ++ [(bj cache j + low / 4294967296) % 256] = out ++ fl cache (low / 4294967296) (j + 1)) := by
          show _ = _; rw [fl_succ, ← List.append_assoc, ho1]
        rw [ho1] at hE
        clear ho1
        have S : Hid (∀ (v' : Value) (w1 : World) (o : Obj), w1.ownsRow base 5 1 v' (o1.length + 1) (o1.map (Value.int .u8) ++ [.int .u8 ((bj cache j + low / 4294967296) % 256)]) → (wr.alloc o).grownBy w1 vj.ownBlock → (v'.ownBlock = vj.ownBlock ∨ v'.ownBlock = some (wr.alloc o).heap.size) →
            Enc ((w1.setCell ⟨B, 4, none⟩ v').setCell ⟨B, 3, none⟩ (.int .i64 ((cs : Int) - (j : Int) - 1))) base B low rng cache ((cs : Int) - ((j + 1 : Nat) : Int)) v' (out ++ fl cache (low / 4294967296) (j + 1)) ∧ Only wc ((w1.setCell ⟨B, 4, none⟩ v').setCell ⟨B, 3, none⟩ (.int .i64 ((cs : Int) - (j : Int) - 1))) B v v') := by
          intro v' w1 o a1 a2 a3
          have := flush_step (c2 := (cs : Int) - (j : Int) - 1) hE hO o a1 a2 a3
          rw [← Ho.out, show (cs : Int) - ((j + 1 : Nat) : Int) = (cs : Int) - (j : Int) - 1 by omega]
          exact this
        have T : Hid (∀ (w1 : World) (o : Obj), (wr.alloc o).grownBy w1 vj.ownBlock → Row w1 B 79 (cellsE low rng cache ((cs : Int) - (j : Int)) vj)) := fun w1 o a2 => flush_row hE o a2
        have hbs : base ≤ wr.heap.size + 1 := by have := hE.ge; omega
        have hown := hE.own
        clear hE hO h
        go_wp2_with (first | (at_builtin; go_must (refine wpList_append_apart _ rfl (.tmp 44) (.tmp 48) 25 rfl base 5 i0 (.int .u8 0) 1 Try.underlying25 hi hz0 hz1 hz2 rfl vj _ _ rfl (hown.alloc _) ⟨wr.heap.size, 0, none⟩ 1 (.int .u8 ((bj cache j + low / 4294967296) % 256)) rfl ?hu rfl ?h63 ?hby ?hbs ?_)))
        case hu => simp
        case h63 => unfold maxLen; omega
        case hby => omega
        case hbs => simpa using hbs
        · intro v' w1 hown' hgrow hplace
          have R : Hid _ := S.out v' w1 _ hown' hgrow (by simpa using hplace)
          have r1 := T.out w1 _ hgrow
          have g3 : w1.cell? ⟨B, 3, none⟩ = some (.int .i64 ((cs : Int) - (j : Int))) := by rw [r1.cell]; simp [cellsE]
          have g4 : w1.cell? ⟨B, 4, none⟩ = some vj := by rw [r1.cell]; simp [cellsE]
          have f3 := r1.free 3
          have f4 := r1.free 4
          obtain ⟨gg, gc, hv⟩ : ∃ gg gc, v' = .slice (some ⟨gg, 0, none⟩) (o1.length + 1) gc := by
            rcases hown'.2 with ⟨_, e⟩ | ⟨gg, gc, _, e, _⟩
            · omega
            · exact ⟨gg, gc, e⟩
          subst hv
          clear hown' hgrow hplace S T hown r1 d0 d3 d4
          go_wp2
          go_roundg (cs - (j + 1))
          case measure => omega
          case rel => exact ⟨j + 1, by omega, rfl, rfl, _, R.out⟩
      · obtain rfl : j = cs := by omega
        have e3 : wr.cell? ⟨B, 3, none⟩ = some (.int .i64 0) := by rw [d3]; simp
        clear d3
        have d2 : wr.cell? ⟨B, 2, none⟩ = some (.int .u8 cache) := by rw [hE.row.cell]; simp [cellsE]
        have f0 := hE.row.free 0
        have f2 := hE.row.free 2
        have f3 := hE.row.free 3
        go_wp2
        go_end0
        exact ⟨rfl, vj, ((hE.setCache _).setCs _).setLow _, ((hO.setCell 2 _).setCell 3 _).setCell 0 _⟩

set_option maxHeartbeats 400000 in
theorem shiftHold (base B : Nat) (low rng cache : Int) (cs : Nat) (v : Value) (out : List Int) (w : World) (h : Enc w base B low rng cache cs v out) (l0 : 4278190080 ≤ low) (l1 : low < 4294967296) (s2 : cs ≤ 5000) :
    Calls Try.prog 45 #[.pointer (some ⟨B, 0, none⟩)] w fun e w' => e = .returned (.tuple #[]) ∧
      Enc w' base B (low * 256 % 4294967296) rng cache ((cs : Int) + 1) v out ∧ Only w w' B v v := by
  have c0 : w.cell? ⟨B, 0, none⟩ = some (.int .u64 low) := by rw [h.row.cell]; simp [cellsE]
  have c3 : w.cell? ⟨B, 3, none⟩ = some (.int .i64 cs) := by rw [h.row.cell]; simp [cellsE]
  have f0 := h.row.free 0
  have f3 := h.row.free 3
  have q1 : ¬ (low % 4294967296 < 4278190080) := by omega
  have q3 : (low / 4294967296 != 0) = false := by simp; omega
  go_enter Try.func45, Try.ntmps45
  go_wp2
  go_end0
  exact ⟨rfl, (h.setCs _).setLow _, ((Only.refl _ _ _).setCell 3 _).setCell 0 _⟩
end Go.Proofs.Qxb6605628aR
