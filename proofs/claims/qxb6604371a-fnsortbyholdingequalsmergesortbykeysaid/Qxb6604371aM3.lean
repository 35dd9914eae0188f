import Derived.Test.Qxb6604371aM2
import Derived.Test.Qxb6604371aS8
import Derived.Deep.DeepCutAuto
namespace Go.Proofs.Qxb6604371a
open Go.RowKit

/-- What the merging loop keeps. -/
def MrgRel (wG wr : World) (G n : Nat) (L R : List Lot) (i j : Nat) (v : Value) : Prop :=
  ∃ acc, v = .slice (some ⟨G, 0, none⟩) (i + j) n ∧ wr.ownsRow wG.heap.size 45 4 (.slice (some ⟨G, 0, none⟩) (i + j) n) (i + j) (flat acc) ∧ acc ++ mrg (L.drop i) (R.drop j) = mrg L R ∧ Below wG.heap.size wG wr

theorem new_key (W : World) (a b c : ByteArray) (d : Int) : ∀ j u, (encKey (a, b, c, d))[j]? = some u → (W.alloc (.cells #[.string a, .string b, .string c, .int .i32 d] 45)).cell? ((⟨W.heap.size, 0, none⟩ : Addr).add j) = some u := by
  intro j u hu
  have r := Row.new W 45 #[.string a, .string b, .string c, .int .i32 d]
  rw [Addr.add_lit, Nat.zero_add, r.cell]
  match j, hu with
  | 0, hu => cases hu; rfl
  | 1, hu => cases hu; rfl
  | 2, hu => cases hu; rfl
  | 3, hu => cases hu; rfl
theorem key_ones (x : Lot) : ∀ u ∈ encKey x, u.oneCell' = true := by
  have := flat_ones [x]; rwa [flat_one] at this

/-- The cells of a row's rest. -/
theorem rest_cells {w : World} {B l c i : Nat} {ks : List Lot} (hl : ks.length = l) (hlc : l ≤ c) (hk : KeysAt w B 0 ks) {ao : Option Addr} (hao : ¬ c = i → ao = some ⟨B, i * 4, none⟩) :
    ∀ ad, ao = some ad → ∀ t u, (flat (ks.drop i))[t]? = some u → w.cell? (ad.add t) = some u := by
  intro ad had t u hu
  have ht : i < l := by
    have h1 := (List.getElem?_eq_some_iff.1 hu).1
    rw [size_flat, List.length_drop] at h1
    omega
  rw [hao (by omega)] at had
  obtain rfl := Option.some.inj had
  rw [Addr.add_lit]
  have := (hk.drop i).cells hu
  rwa [Nat.zero_add] at this

theorem own_stray {w : World} {base g n cap : Nat} {xs : List Value} (h : w.ownsRow base 45 4 (.slice (some ⟨g, 0, none⟩) n cap) n xs) (s : Far) : (stray w s).ownsRow base 45 4 (.slice (some ⟨g, 0, none⟩) n cap) n xs :=
  h.kept (row := none) ⟨rfl, rfl, rfl, stray_size _ _, fun _ hk _ => stray_block _ _ hk⟩ (.inr (by simp [Value.ownBlock]))

theorem stray_keep {B : Nat} {w wr : World} (h : Below B w wr) (hB : B ≤ w.heap.size) (s : Far) : Below B w (stray wr s) :=
  h.trans ⟨rfl, rfl, rfl, stray_size _ _, fun _ hk => stray_block _ _ (Nat.lt_of_lt_of_le (Nat.lt_of_lt_of_le hk hB) h.size)⟩

set_option maxHeartbeats 4000000 in
set_option maxRecDepth 100000 in
theorem mergeSort (n : Nat) : ∀ (c B off : Nat) (ks : List Lot) (w : World), n ≤ c → c ≤ 65536 → ks.length = n → KeysAt w B off ks → B < w.heap.size → (∀ x ∈ ks, Fits x) →
    Calls Try.prog 18 #[.slice (some ⟨B, off, none⟩) n c] w fun e w' => GotKeys e w' w.heap.size n ks ∧ Below w.heap.size w w' := by
  induction n using Nat.strongRecOn with
  | _ n ih =>
  intro c B off ks w hc hc2 hl hk hB hF
  by_cases h1 : n ≤ 1
  · exact sortBase n c B off ks w h1 hl hk hB
  have m1 : n / 2 < n := by omega
  have m3 : ¬ c = n / 2 := by omega
  have IH1 := ih (n / 2) m1 c B off (ks.take (n / 2)) w (by omega) hc2 (by rw [List.length_take]; omega) (hk.take _) hB (fun x hx => hF x (List.mem_of_mem_take hx))
  have IH2 := fun w' (hb : Below w.heap.size w w') => ih (n - n / 2) (by omega) (c - n / 2) B (off + n / 2 * 4) (ks.drop (n / 2)) w' (by omega) (by omega) (by rw [List.length_drop]; omega) ((hk.same (hb.block B hB)).drop _) (Nat.lt_of_lt_of_le hB hb.size) (fun x hx => hF x (List.mem_of_mem_drop hx))
  have P1 : Hid ((∀ x ∈ ks, Fits x) ∧ ks.take (n / 2) ++ ks.drop (n / 2) = ks ∧ (ks.take (n / 2)).length = n / 2 ∧ (ks.drop (n / 2)).length = n - n / 2) := ⟨hF, List.take_append_drop _ _, by rw [List.length_take]; omega, by rw [List.length_drop]; omega⟩
  generalize ks.take (n / 2) = k1 at *
  generalize ks.drop (n / 2) = k2 at *
  clear ih hk hF
  go_enter Try.func18, Try.ntmps18
  go_wp2_with fail
  refine IH1.mono ?_
  rintro e wL ⟨⟨BL, cL, L, rfl, zL0, zL, zL1, zL2, kL, pL, aL⟩, bL⟩
  clear IH1
  have I2 := IH2 wL bL
  clear IH2
  go_wp2_with fail
  refine I2.mono ?_
  rintro e wG ⟨⟨BR, cR, R, rfl, zR0, zR, zR1, zR2, kR, pR, aR⟩, bR⟩
  clear I2
  have kL' := kL.same (bR.block BL zL)
  have zL' : BL < wG.heap.size := Nat.lt_of_lt_of_le zL bR.size
  have bG : Below w.heap.size w wG := bL.trans (bR.mono bL.size)
  clear kL zL bL bR
  have hmk := make43c n (by omega)
  go_wp2_with fail
  clear hmk
  obtain ⟨i0, hi0, hz0, hz1, hz2⟩ := info_parts Try.info45
  have lL : L.length = n / 2 := by rw [pL.length_eq]; exact P1.out.2.2.1
  have lR : R.length = n - n / 2 := by rw [pR.length_eq]; exact P1.out.2.2.2
  have fR : ∀ y ∈ R, Fits y := fun y hy => P1.out.1 y (by rw [← P1.out.2.1]; exact List.mem_append_right _ (pR.subset hy))
  have E : Hid (∀ w', KeysAt w' wG.heap.size 0 (mrg L R) → wG.heap.size < w'.heap.size → GotKeys (.returned (.slice (some ⟨wG.heap.size, 0, none⟩) n n)) w' w.heap.size n ks) := fun w' h1 h2 =>
    ⟨_, _, mrg L R, rfl, bG.size, h2, Nat.le_refl _, by omega, h1, by rw [← P1.out.2.1]; exact (mrg_perm L R).trans (pL.append pR), mrg_asc aL aR⟩
  have G1 : Hid (Below w.heap.size w wG) := bG
  clear P1 pL pR aL aR bG hl hB zL0 zR0
  go_loopw [7, 8, 9] (fun out si sj wr => ∃ i j : Nat, i ≤ n / 2 ∧ j ≤ n - n / 2 ∧ si = .int .i64 i ∧ sj = .int .i64 j ∧ MrgRel wG wr wG.heap.size n L R i j out) (fun _ si sj _ => (n / 2 - (intOf si).toNat) + (n - n / 2 - (intOf sj).toNat))
  case atStart =>
    refine ⟨0, 0, Nat.zero_le _, Nat.zero_le _, rfl, rfl, [], rfl, ⟨by simp [flat], .inr ⟨wG.heap.size, n, freshKeys n, rfl, Nat.le_refl _, Row.new _ _ _, Nat.zero_le _, by unfold maxLen; omega, size_freshKeys _, by simp [flat]⟩⟩, by simp, (Below.refl _ _).alloc (Nat.le_refl _) _⟩
  case round =>
    obtain ⟨i, j, hi, hj, rfl, rfl, acc, rfl, hown, hm, hbel⟩ := hrel
    by_cases hA : i < n / 2 ∧ j < n - n / 2
    · obtain ⟨hi', hj'⟩ := hA
      obtain ⟨⟨xa, xb, xc, xd⟩, hx⟩ : ∃ x, L[i]? = some x := ⟨_, List.getElem?_eq_getElem (by omega)⟩
      obtain ⟨⟨ya, yb, yc, yd⟩, hy⟩ : ∃ y, R[j]? = some y := ⟨_, List.getElem?_eq_getElem (by omega)⟩
      have Fy : Hid (Fits (ya, yb, yc, yd)) := fR _ (List.mem_of_getElem? hy)
      have cX := (kL'.same (hbel.block BL zL')) i _ hx
      have cY := (kR.same (hbel.block BR zR)) j _ hy
      rw [Nat.zero_add] at cX cY
      obtain ⟨x0, x1, x2, x3⟩ := cX
      obtain ⟨y0, y1, y2, y3⟩ := cY
      simp only at x0 x1 x2 x3 y0 y1 y2 y3
      have X0 := stray_cell x0 (lt_of_cell x0)
      have X1 := stray_cell x1 (lt_of_cell x1)
      have X2 := stray_cell x2 (lt_of_cell x2)
      have X3 := stray_cell x3 (lt_of_cell x3)
      have Y0 := stray_cell y0 (lt_of_cell y0)
      have Y1 := stray_cell y1 (lt_of_cell y1)
      have Y2 := stray_cell y2 (lt_of_cell y2)
      have Y3 := stray_cell y3 (lt_of_cell y3)
      clear x0 x1 x2 x3 y0 y1 y2 y3
      cases hb : ltLot (ya, yb, yc, yd) (xa, xb, xc, xd)
      · have hm' := hm
        rw [mrg_l hx hy hb] at hm'
        have Hb : Hid (ltLot (ya, yb, yc, yd) (xa, xb, xc, xd) = false) := hb
        clear hb hx hy hm
        go_wp2_with fail
        refine region_quiet_grow (by kernel_rfl) (by kernel_rfl) ?_
        repeat (go_big_quiet_step (first | (go_at_call 23; exact stray_call (keyLess' _ _ _ _ _ _ _ _ Fy.out _ Hb.out _))))
        refine wpQuiet_nil ?_
        rintro W2 ⟨s, hW2⟩
        have own2 := own_stray hown s
        have bel2 := stray_keep hbel (Nat.le_refl _) s
        have x0 := X0 s
        have x1 := X1 s
        have x2 := X2 s
        have x3 := X3 s
        rw [← hW2] at own2 bel2 x0 x1 x2 x3
        clear hW2 X0 X1 X2 X3 Y0 Y1 Y2 Y3 hown hbel
        have ZW := bel2.size
        go_wp2_with (first | (at_builtin; refine wpList_append_fits _ rfl (.tmp 62) (.tmp 67) 43 rfl wG.heap.size 45 i0 4 Try.underlying43 hi0 hz1 wG.heap.size (i + j) n _ rfl (own2.alloc _) ⟨W2.heap.size, 0, none⟩ 1 1 (encKey (xa, xb, xc, xd)) rfl rfl (new_key _ _ _ _ _) (key_ones _) (by omega) ?_; intro w3 own3 grow3))
        go_roundw
        case rel =>
          refine ⟨i + 1, j, by omega, hj, by go_num, rfl, acc ++ [(xa, xb, xc, xd)], ?_, ?_, by rw [List.append_assoc]; exact hm', (bel2.alloc bel2.size _).grown grow3 (by simp; omega) (fun k hk => by cases hk; exact Nat.le_refl _)⟩
          · rw [show i + 1 + j = i + j + 1 by omega]
          · rw [show i + 1 + j = i + j + 1 by omega, flat_append, flat_one]; exact own3
        case measure => simp [intOf]; omega
      · have hm' := hm
        rw [mrg_r hx hy hb] at hm'
        have Hb : Hid (ltLot (ya, yb, yc, yd) (xa, xb, xc, xd) = true) := hb
        clear hb hx hy hm
        go_wp2_with fail
        refine region_quiet_grow (by kernel_rfl) (by kernel_rfl) ?_
        repeat (go_big_quiet_step (first | (go_at_call 23; exact stray_call (keyLess' _ _ _ _ _ _ _ _ Fy.out _ Hb.out _))))
        refine wpQuiet_nil ?_
        rintro W2 ⟨s, hW2⟩
        have own2 := own_stray hown s
        have bel2 := stray_keep hbel (Nat.le_refl _) s
        have y0 := Y0 s
        have y1 := Y1 s
        have y2 := Y2 s
        have y3 := Y3 s
        rw [← hW2] at own2 bel2 y0 y1 y2 y3
        clear hW2 X0 X1 X2 X3 Y0 Y1 Y2 Y3 hown hbel
        have ZW := bel2.size
        go_wp2_with (first | (at_builtin; refine wpList_append_fits _ rfl (.tmp 53) (.tmp 58) 43 rfl wG.heap.size 45 i0 4 Try.underlying43 hi0 hz1 wG.heap.size (i + j) n _ rfl (own2.alloc _) ⟨W2.heap.size, 0, none⟩ 1 1 (encKey (ya, yb, yc, yd)) rfl rfl (new_key _ _ _ _ _) (key_ones _) (by omega) ?_; intro w3 own3 grow3))
        go_roundw
        case rel =>
          refine ⟨i, j + 1, hi, by omega, rfl, by go_num, acc ++ [(ya, yb, yc, yd)], rfl, ?_, by rw [List.append_assoc]; exact hm', (bel2.alloc bel2.size _).grown grow3 (by simp; omega) (fun k hk => by cases hk; exact Nat.le_refl _)⟩
          rw [flat_append, flat_one]; exact own3
        case measure => simp [intOf]; omega
    · have kL2 := kL'.same (hbel.block BL zL')
      have kR2 := kR.same (hbel.block BR zR)
      have hEnd := mrg_end hm (by rw [lL, lR]; exact hA)
      have ZW := hbel.size
      clear kL' kR fR hm
      by_cases hi' : i < n / 2
      · have hj' : ¬ j < n - n / 2 := fun h => hA ⟨hi', h⟩
        clear hA
        go_wp2_with (first
          | (at_builtin; refine wpList_append_fits_any _ rfl (.tmp 71) (.tmp 74) 43 rfl wG.heap.size 45 i0 4 Try.underlying43 hi0 hz1 wG.heap.size (i + j) n _ rfl hown _ (n / 2 - i) _ (flat (L.drop i)) rfl (by rw [size_flat, List.length_drop, lL]) (by intro h; first | cases h | (split at h <;> cases h)) (rest_cells lL zL1 kL2 (by intro h; first | rfl | simp [h])) (flat_ones _) (by omega) ?_; intro w1 own1 grow1)
          | (at_builtin; refine wpList_append_fits_any _ rfl (.tmp 76) (.tmp 79) 43 rfl wG.heap.size 45 i0 4 Try.underlying43 hi0 hz1 wG.heap.size (i + j + (n / 2 - i)) n _ rfl own1 _ (n - n / 2 - j) _ (flat (R.drop j)) rfl (by rw [size_flat, List.length_drop, lR]) (by intro h; first | cases h | (split at h <;> cases h)) (rest_cells lR zR1 (kR2.same (grow1.block BR (Nat.lt_of_lt_of_le zR ZW) (fun e => by have h2 : BR = wG.heap.size := Option.some.inj e; omega))) (by intro h; first | rfl | simp [h])) (flat_ones _) (by omega) ?_; intro w2 own2 grow2))
        all_goals
          go_ret
          have e : i + j + (n / 2 - i) + (n - n / 2 - j) = n := by omega
          rw [e, ← flat_append, ← flat_append, hEnd] at own2
          obtain ⟨f1, f2, f3⟩ := own_keys own2
          have b1 := hbel.grown grow1 hbel.size (fun k hk => by cases hk; exact Nat.le_refl _)
          have b2 := b1.grown grow2 b1.size (fun k hk => by cases hk; exact Nat.le_refl _)
          refine ⟨?_, G1.out.trans (b2.mono G1.out.size)⟩
          have := E.out _ f1 f3
          show GotKeys (.returned (.slice _ (i + j + (n / 2 - i) + (n - n / 2 - j)) _)) _ _ _ _
          rw [e]; exact this
      · clear hA
        go_wp2_with (first
          | (at_builtin; refine wpList_append_fits_any _ rfl (.tmp 71) (.tmp 74) 43 rfl wG.heap.size 45 i0 4 Try.underlying43 hi0 hz1 wG.heap.size (i + j) n _ rfl hown _ (n / 2 - i) _ (flat (L.drop i)) rfl (by rw [size_flat, List.length_drop, lL]) (by intro h; first | cases h | (split at h <;> cases h)) (rest_cells lL zL1 kL2 (by intro h; first | rfl | simp [h])) (flat_ones _) (by omega) ?_; intro w1 own1 grow1)
          | (at_builtin; refine wpList_append_fits_any _ rfl (.tmp 76) (.tmp 79) 43 rfl wG.heap.size 45 i0 4 Try.underlying43 hi0 hz1 wG.heap.size (i + j + (n / 2 - i)) n _ rfl own1 _ (n - n / 2 - j) _ (flat (R.drop j)) rfl (by rw [size_flat, List.length_drop, lR]) (by intro h; first | cases h | (split at h <;> cases h)) (rest_cells lR zR1 (kR2.same (grow1.block BR (Nat.lt_of_lt_of_le zR ZW) (fun e => by have h2 : BR = wG.heap.size := Option.some.inj e; omega))) (by intro h; first | rfl | simp [h])) (flat_ones _) (by omega) ?_; intro w2 own2 grow2))
        all_goals
          go_ret
          have e : i + j + (n / 2 - i) + (n - n / 2 - j) = n := by omega
          rw [e, ← flat_append, ← flat_append, hEnd] at own2
          obtain ⟨f1, f2, f3⟩ := own_keys own2
          have b1 := hbel.grown grow1 hbel.size (fun k hk => by cases hk; exact Nat.le_refl _)
          have b2 := b1.grown grow2 b1.size (fun k hk => by cases hk; exact Nat.le_refl _)
          refine ⟨?_, G1.out.trans (b2.mono G1.out.size)⟩
          have := E.out _ f1 f3
          show GotKeys (.returned (.slice _ (i + j + (n / 2 - i) + (n - n / 2 - j)) _)) _ _ _ _
          rw [e]; exact this
end Go.Proofs.Qxb6604371a
