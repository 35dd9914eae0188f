import Derived.Test.Qxb6605628aRA3
namespace Go.Proofs.Qxb6605628aR
open Go.RowKit

theorem Only.row {w w' : World} {B C : Nat} {v v' : Value} {t : TypeId} {arr : Array Value} (h : Only w w' B v v') (hr : Row w C t arr) (h1 : C ≠ B) (h2 : some C ≠ v.ownBlock) : Row w' C t arr := by
  unfold Row; rw [h.block C hr.lt h1 h2]; exact hr
theorem row_ne_own {w : World} {base C : Nat} {v : Value} {n : Nat} {xs : List Value} {t : TypeId} {arr : Array Value} (ho : w.ownsRow base 5 1 v n xs) (hr : Row w C t arr) (ht : t ≠ 5) : some C ≠ v.ownBlock := by
  intro e
  rcases ho.2 with ⟨rfl, _⟩ | ⟨g, cap, cur, rfl, _, hg, _⟩
  · simp [Value.ownBlock] at e
  · simp [Value.ownBlock] at e
    subst e
    unfold Row at hr
    rw [hg] at hr
    simp at hr
    exact ht hr.2.symm
theorem row_ne_row {w : World} {C D : Nat} {t u : TypeId} {arr brr : Array Value} (h1 : Row w C t arr) (h2 : Row w D u brr) (ht : t ≠ u) : C ≠ D := by
  intro e
  subst e
  unfold Row at h1 h2
  rw [h1] at h2
  simp at h2
  exact ht h2.2

/-- An encoder that holds the state 's'. -/
def EncS (w : World) (base B : Nat) (s : St) (v : Value) : Prop := Enc w base B s.low s.rng s.cache s.cs v s.out

theorem EncS.drewN {w : World} {base B : Nat} {s : St} {v : Value} (h : EncS w base B s v) (n : Nat) : EncS (w.drewN n) base B s v := ⟨h.row, h.own, h.ge⟩
theorem EncS.drew {w : World} {base B : Nat} {s : St} {v : Value} (h : EncS w base B s v) : EncS w.drew base B s v := ⟨h.row, h.own, h.ge⟩
theorem Only.drewN {a b : World} {B : Nat} {v v1 : Value} (h : Only a b B v v1) (n : Nat) : Only a (b.drewN n) B v v1 := ⟨h.os, h.tape, h.output, h.size, h.block, h.place⟩
theorem EncS.other {w : World} {base B : Nat} {s : St} {v : Value} (h : EncS w base B s v) {p : Addr} (h1 : B ≠ p.block) (h2 : v.ownBlock ≠ some p.block) (u : Value) : EncS (w.setCell p u) base B s v :=
  ⟨h.row.other h1 u, ownsRow_setCell_other h.own h2 u, h.ge⟩

/-- The shift, on the plain state. -/
theorem shiftLow (base B : Nat) (s : St) (v : Value) (w : World) (h : EncS w base B s v) (l0 : 0 ≤ s.low) (l1 : s.low < 8589934592) (c0 : 0 ≤ s.cache) (c1 : s.cache < 256) (s1 : 1 ≤ s.cs) (s2 : s.cs ≤ 5000) (ol : s.out.length ≤ 5000) :
    Calls Try.prog 45 #[.pointer (some ⟨B, 0, none⟩)] w fun e w' => e = .returned (.tuple #[]) ∧ ∃ v', EncS w' base B (shiftS s) v' ∧ Only w w' B v v' := by
  by_cases q : s.low % 4294967296 < 4278190080 ∨ 4294967296 ≤ s.low
  · refine (shiftFlush base B s.low s.rng s.cache s.cs v s.out w h l0 l1 c0 c1 s1 s2 ol q).mono ?_
    rintro e w' ⟨rfl, v', hE, hO⟩
    refine ⟨rfl, v', ?_, hO⟩
    unfold shiftS
    rw [if_pos q]
    exact hE
  · refine (shiftHold base B s.low s.rng s.cache s.cs v s.out w h (by omega) (by omega) s2).mono ?_
    rintro e w' ⟨rfl, hE, hO⟩
    refine ⟨rfl, v, ?_, hO⟩
    unfold shiftS
    rw [if_neg q]
    exact hE

set_option maxHeartbeats 1000000 in
theorem bit (a : World) (base B Bp : Nat) (s : St) (k : Nat) (p b : Int) (v0 v : Value) (w : World) (h : EncS w base B s v) (hp : Row w Bp 59 #[.int .u16 p]) (hO : Only a w B v0 v) (hBp : a.heap.size ≤ Bp) (hg : Good k s) (hk : k ≤ 4096) (p0 : 31 ≤ p) (p1 : p ≤ 2017) :
    Calls Try.prog 42 #[.pointer (some ⟨B, 0, none⟩), .pointer (some ⟨Bp, 0, none⟩), .int .u32 b] w fun e w' => e = .returned (.tuple #[]) ∧
      ∃ v', EncS w' base B (bitS s p b) v' ∧ Row w' Bp 59 #[.int .u16 (bitP p b)] ∧ Only a w' B v0 v' := by
  obtain ⟨x1, x2, x3⟩ := bound_facts hg.rng0 hg.rng1 p0 p1
  have r0 := hg.rng0
  have r1 := hg.rng1
  have l0 := hg.low0
  have l1 := hg.sum
  have c0 : w.cell? ⟨B, 0, none⟩ = some (.int .u64 s.low) := by rw [h.row.cell]; simp [cellsE]
  have c1 : w.cell? ⟨B, 1, none⟩ = some (.int .u32 s.rng) := by rw [h.row.cell]; simp [cellsE]
  have cp : w.cell? ⟨Bp, 0, none⟩ = some (.int .u16 p) := by rw [hp.cell]; simp
  have f0 := h.row.free 0
  have f1 := h.row.free 1
  have fp := hp.free 0
  have hne : B ≠ Bp := row_ne_row h.row hp (by decide)
  have hno : v.ownBlock ≠ some Bp := fun e => row_ne_own h.own hp (by decide) e.symm
  have HG : Hid (Good k s) := hg
  clear hg
  go_enter Try.func42, Try.ntmps42
  go_wp2
  go_quiet (fail)
  go_upto_if 18 with fail
  go_cut [] (fun wx => EncS wx base B (preS s p b) v ∧ Row wx Bp 59 #[.int .u16 (bitP p b)] ∧ Only a wx B v0 v)
  case first =>
    by_cases hb : b = 0
    · subst hb
      have E1 : Hid (∀ n, EncS ((((w.drewN n).setCell ⟨B, 1, none⟩ (.int .u32 (s.rng / 2048 * p))).setCell ⟨Bp, 0, none⟩ (.int .u16 (p + (2048 - p) / 32))).drew) base B (preS s p 0) v ∧ Row ((((w.drewN n).setCell ⟨B, 1, none⟩ (.int .u32 (s.rng / 2048 * p))).setCell ⟨Bp, 0, none⟩ (.int .u16 (p + (2048 - p) / 32))).drew) Bp 59 #[.int .u16 (bitP p 0)] ∧ Only a ((((w.drewN n).setCell ⟨B, 1, none⟩ (.int .u32 (s.rng / 2048 * p))).setCell ⟨Bp, 0, none⟩ (.int .u16 (p + (2048 - p) / 32))).drew) B v0 v) := by
        intro n
        refine ⟨?_, ?_, ?_⟩
        · have h1 : EncS ((w.drewN n).setCell ⟨B, 1, none⟩ (.int .u32 (s.rng / 2048 * p))) base B (preS s p 0) v := (h.drewN n).setRng _
          exact (h1.other (p := ⟨Bp, 0, none⟩) hne hno _).drew
        · have h2 : Row (w.drewN n) Bp 59 #[.int .u16 p] := hp
          have h3 := (h2.other (a := ⟨B, 1, none⟩) (fun e => hne e.symm) (.int .u32 (s.rng / 2048 * p))).set 0 (.int .u16 (p + (2048 - p) / 32))
          have h4 := h3.drew
          simpa [bitP] using h4
        · exact (((hO.drewN n).setCell 1 _).setNew (p := ⟨Bp, 0, none⟩) hBp _).drew
      clear h hp hO
      go_wp2
      go_region
      all_goals go_wp2
      all_goals go_meet
      all_goals (case rel => exact E1.out _)
    · have hb' : (b == 0) = false := by simpa using hb
      have E1 : Hid (∀ n, EncS (((((w.drewN n).setCell ⟨B, 0, none⟩ (.int .u64 (s.low + s.rng / 2048 * p))).setCell ⟨B, 1, none⟩ (.int .u32 (s.rng - s.rng / 2048 * p))).setCell ⟨Bp, 0, none⟩ (.int .u16 (p - p / 32))).drew) base B (preS s p b) v ∧ Row (((((w.drewN n).setCell ⟨B, 0, none⟩ (.int .u64 (s.low + s.rng / 2048 * p))).setCell ⟨B, 1, none⟩ (.int .u32 (s.rng - s.rng / 2048 * p))).setCell ⟨Bp, 0, none⟩ (.int .u16 (p - p / 32))).drew) Bp 59 #[.int .u16 (bitP p b)] ∧ Only a (((((w.drewN n).setCell ⟨B, 0, none⟩ (.int .u64 (s.low + s.rng / 2048 * p))).setCell ⟨B, 1, none⟩ (.int .u32 (s.rng - s.rng / 2048 * p))).setCell ⟨Bp, 0, none⟩ (.int .u16 (p - p / 32))).drew) B v0 v) := by
        intro n
        refine ⟨?_, ?_, ?_⟩
        · have h1 : EncS (((w.drewN n).setCell ⟨B, 0, none⟩ (.int .u64 (s.low + s.rng / 2048 * p))).setCell ⟨B, 1, none⟩ (.int .u32 (s.rng - s.rng / 2048 * p))) base B (preS s p b) v := by
            unfold preS; rw [if_neg hb]; exact (Enc.setLow (h.drewN n) _).setRng _
          exact (h1.other (p := ⟨Bp, 0, none⟩) hne hno _).drew
        · have h2 : Row (w.drewN n) Bp 59 #[.int .u16 p] := hp
          have h3 := ((h2.other (a := ⟨B, 0, none⟩) (fun e => hne e.symm) (.int .u64 (s.low + s.rng / 2048 * p))).other (a := ⟨B, 1, none⟩) (fun e => hne e.symm) (.int .u32 (s.rng - s.rng / 2048 * p))).set 0 (.int .u16 (p - p / 32))
          have h4 := h3.drew
          simpa [bitP, hb] using h4
        · exact ((((hO.drewN n).setCell 0 _).setCell 1 _).setNew (p := ⟨Bp, 0, none⟩) hBp _).drew
      clear h hp hO hb
      go_wp2
      go_region
      all_goals go_wp2
      all_goals go_meet
      all_goals (case rel => exact E1.out _)
  case rest =>
    clear h hp hO c0 c1 cp f0 f1 fp x1 x2 x3 r0 r1 l0 l1 hne hno
    obtain ⟨h1, h2, h3⟩ := hcut
    obtain ⟨y1, y2, y3, y4, y5, y6, y7, _⟩ := good_pre HG.out (b := b) p0 p1
    have y8 := HG.out.cache0
    have y9 := HG.out.cache1
    have y10 := HG.out.cs1
    have y11 := HG.out.len
    have HB : Hid (bitS s p b = if (preS s p b).rng < 16777216 then shiftS ⟨(preS s p b).low, (preS s p b).rng * 256, (preS s p b).cache, (preS s p b).cs, (preS s p b).out⟩ else preS s p b) := rfl
    have HB2 : Hid (16777216 ≤ (bitS s p b).rng) := (good_bit HG.out p0 p1).rng0
    rw [← y5] at y8 y9
    rw [← y6] at y10 y11
    rw [← y7] at y11
    clear y5 y6 y7
    obtain ⟨sf, hsf⟩ : ∃ sf, bitS s p b = sf := ⟨_, rfl⟩
    have HSF : Hid (bitS s p b = sf) := hsf
    rw [hsf] at HB HB2
    clear hsf
    generalize preS s p b = s1 at *
    go_wp2
    go_loopg [] 1 (fun gk wr => (gk = 1 ∧ s1.rng < 16777216 ∧ EncS wr base B s1 v ∧ Row wr Bp 59 #[.int .u16 (bitP p b)] ∧ Only a wr B v0 v) ∨ (∃ v', EncS wr base B sf v' ∧ Row wr Bp 59 #[.int .u16 (bitP p b)] ∧ Only a wr B v0 v'))
    case atStart =>
      by_cases q : s1.rng < 16777216
      · exact .inl ⟨rfl, q, h1, h2, h3⟩
      · refine .inr ⟨v, ?_, h2, h3⟩
        rw [HB.out, if_neg q]; exact h1
    case round =>
      clear h1 h2 h3
      rcases hrel with ⟨rfl, q, h1, h2, h3⟩ | ⟨v', h1, h2, h3⟩
      · have c1 : wr.cell? ⟨B, 1, none⟩ = some (.int .u32 s1.rng) := by rw [h1.row.cell]; simp [cellsE]
        have f1 := h1.row.free 1
        have hne : B ≠ Bp := row_ne_row h1.row h2 (by decide)
        have HS : Hid (EncS (wr.setCell ⟨B, 1, none⟩ (.int .u32 (s1.rng * 256))) base B ⟨s1.low, s1.rng * 256, s1.cache, s1.cs, s1.out⟩ v) := h1.setRng _
        have h2' : Hid (Row (wr.setCell ⟨B, 1, none⟩ (.int .u32 (s1.rng * 256))) Bp 59 #[.int .u16 (bitP p b)]) := h2.other (a := ⟨B, 1, none⟩) (fun e => hne e.symm) _
        have h3' : Hid (Only a (wr.setCell ⟨B, 1, none⟩ (.int .u32 (s1.rng * 256))) B v0 v) := h3.setCell 1 _
        have hb2 := HB.out
        rw [if_pos q] at hb2
        have HB3 : Hid (sf = shiftS ⟨s1.low, s1.rng * 256, s1.cache, s1.cs, s1.out⟩) := hb2
        clear h1 h2 h3 hb2 HB HB2 hne
        go_wp2_with fail
        refine (shiftLow base B ⟨s1.low, s1.rng * 256, s1.cache, s1.cs, s1.out⟩ v _ HS.out y1 (by dsimp only; omega) y8 y9 y10 (by dsimp only; omega) (by dsimp only; omega)).mono ?_
        rintro e w2 ⟨rfl, v', hE, hO⟩
        have R1 : Hid (EncS w2 base B sf v') := by show EncS w2 base B sf v'; rw [HB3.out]; exact hE
        have hno : some Bp ≠ v.ownBlock := row_ne_own HS.out.own h2'.out (by decide)
        have hne : B ≠ Bp := row_ne_row HS.out.row h2'.out (by decide)
        have R2 : Hid (Row w2 Bp 59 #[.int .u16 (bitP p b)]) := hO.row h2'.out (fun e => hne e.symm) hno
        have R3 : Hid (Only a w2 B v0 v') := h3'.out.trans hO
        clear hE hO hno hne HS h2' h3' HB3
        go_wp2_with fail
        go_roundg 0
        case measure => omega
        case rel => exact .inr ⟨v', R1.out, R2.out, R3.out⟩
      · have c1 : wr.cell? ⟨B, 1, none⟩ = some (.int .u32 sf.rng) := by rw [h1.row.cell]; simp [cellsE]
        have q := HB2.out
        have R1 : Hid (EncS wr base B sf v') := h1
        have R2 : Hid (Row wr Bp 59 #[.int .u16 (bitP p b)]) := h2
        have R3 : Hid (Only a wr B v0 v') := h3
        clear h1 h2 h3
        go_wp2_with fail
        go_end0
        exact ⟨rfl, v', by rw [HSF.out]; exact R1.out, R2.out, R3.out⟩
end Go.Proofs.Qxb6605628aR
