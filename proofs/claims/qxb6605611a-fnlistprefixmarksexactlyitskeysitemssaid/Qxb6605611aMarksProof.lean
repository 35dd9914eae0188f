import Derived.Test.Qxb6605611aRows
import Derived.WalkKit
import Derived.ProofKit
import Derived.OpenShut
import Derived.ShutString
import Derived.Test.Qxb6605611aA1
namespace Go.Proofs.Qxb6605611a.fnListPrefixMarksExactlyItsKeysItems
open Go.ChangeShapes Go.WideShapes Go.ChangeAt Go.RowKit
open Go.ChangeMaps (open_string shut_string)
set_option linter.unusedVariables false      -- a walk need not use every 'w<i>' (that an integer argument fits its kind)

theorem own : ownKnob Try.prog.godebug = none := by kernel_rfl

theorem noSp_mem {s : ByteArray} (h : noSp s = true) : ∀ c ∈ s.data.toList, c ≠ 32 := by
  intro c hc
  have := List.all_eq_true.1 h c hc
  simpa using this

theorem pre_iff (s p : ByteArray) : pre s p = true ↔ p.data.toList <+: s.data.toList := by
  unfold pre
  rw [Bool.and_eq_true, decide_eq_true_eq, beq_iff_eq, ByteArray.toList_eq, ByteArray.toList_eq, ByteArray.data_extract, Array.toList_extract]
  rw [List.prefix_iff_eq_take]
  have hp : p.size = p.data.toList.length := by simp
  have hs : s.size = s.data.toList.length := by simp
  rw [hp, hs, List.extract_eq_take_drop]
  simp only [List.drop_zero, Nat.sub_zero]
  constructor
  · rintro ⟨_, h⟩; exact h.symm
  · intro h
    refine ⟨?_, h.symm⟩
    have := congrArg List.length h
    rw [List.length_take] at this
    omega

theorem marks_law (a b r : ByteArray) (ha : noSp a = true) (hb : noSp b = true) : (pre (b ++ ⟨#[32]⟩ ++ r) (a ++ ⟨#[32]⟩) == (a.toList == b.toList)) = true := by
  rw [beq_iff_eq, Bool.eq_iff_iff, pre_iff, beq_iff_eq, ByteArray.toList_eq, ByteArray.toList_eq]
  have := prefix_key a.data.toList b.data.toList r.data.toList (noSp_mem ha) (noSp_mem hb)
  simpa using this

/-! ### STEP 1: THE WALK: the Go text returns true. 'Grown w w'': the world has at most new blocks (Derived/RowKit3.lean). Part the cases AHEAD of 'go_enter' where a test parts the walk; take each callee by a contract of your own. -/
theorem walk (a0 : ByteArray) (a1 : ByteArray) (a2 : ByteArray) (w0 : a0.size ≤ maxLen) (w1 : a1.size ≤ maxLen) (w2 : a2.size ≤ maxLen) (w : World) :
    Calls Try.prog 4 #[.string a0, .string a1, .string a2] w fun e w' => e = .returned (.bool true) ∧ Grown w w' := by
  have L0 : Hid (a0.size ≤ maxLen) := w0
  have L1 : Hid (a1.size ≤ maxLen) := w1
  have L2 : Hid (a2.size ≤ maxLen) := w2
  unfold maxLen at w0 w1 w2
  go_enter Try.func4, Try.ntmps4
  go_wp2_with fail
  refine (bytes11 a0 a1 a2 L0.out L1.out L2.out w).mono ?_
  rintro e w' ⟨⟨v, rfl⟩, rfl⟩
  clear L0 L1 L2
  cases v
  · go_wp2_with fail
    go_ret
    exact ⟨rfl, Grown.refl _⟩
  by_cases b0 : 262144 < a0.size
  · go_wp2_with fail
    go_ret
    exact ⟨rfl, Grown.refl _⟩
  by_cases b1 : 262144 < a1.size
  · go_wp2_with fail
    go_ret
    exact ⟨rfl, Grown.refl _⟩
  by_cases b2 : 262144 < a2.size
  · go_wp2_with fail
    go_ret
    exact ⟨rfl, Grown.refl _⟩
  go_wp2_with fail
  refine (hasSpace a0 (by omega) _).mono ?_
  rintro e w' ⟨rfl, rfl⟩
  cases s0 : noSp a0
  · go_wp2_with fail
    go_ret
    exact ⟨rfl, Grown.refl _⟩
  go_wp2_with fail
  refine (hasSpace a1 (by omega) _).mono ?_
  rintro e w' ⟨rfl, rfl⟩
  cases s1 : noSp a1
  · go_wp2_with fail
    go_ret
    exact ⟨rfl, Grown.refl _⟩
  have H : Hid ((pre (a1 ++ ⟨#[32]⟩ ++ a2) (a0 ++ ⟨#[32]⟩) == (a0.toList == a1.toList)) = true) := marks_law a0 a1 a2 s0 s1
  clear s0 s1
  go_wp2_with fail
  refine (listPrefix a1 (by omega) _).mono ?_
  rintro e w' ⟨rfl, rfl⟩
  go_wp2_with fail
  refine (listPrefix a0 (by omega) _).mono ?_
  rintro e w' ⟨rfl, rfl⟩
  go_wp2_with fail
  refine (hasPrefix _ _ _).mono ?_
  rintro e w' ⟨rfl, rfl⟩
  go_wp2_with fail
  go_ret
  exact ⟨congrArg (fun b => Ending.returned (Value.bool b)) H.out, Grown.refl _⟩

/-! ### THE ROW's STEP: WRITTEN OUT: LEAVE IT -/
set_option maxRecDepth 100000 in
theorem lifted (os : Os) (started : os.Started) (H : Type) (enc : TypeId × Value → H) :
    ReturnsInHanded {} Try.checked os 4 .any (Rows.fnListPrefixMarksExactlyItsKeysItemsSpec.pre6 enc Try.prog Try.f4 Rows.fnListPrefixMarksExactlyItsKeysItemsRow.domain false) (Rows.fnListPrefixMarksExactlyItsKeysItemsSpec.post enc Try.prog Try.f4 false true false false) := by
  refine returnsInHanded_of_change (C := Try.checked) own started (by kernel_rfl) Try.func4
    (ChangeSpec.witness6 (enc := enc) (C := Try.checked) false ⟨#[], #[.string ByteArray.empty, .string ByteArray.empty, .string ByteArray.empty], []⟩ 8 (by kernel_rfl) (by kernel_rfl) (by kernel_rfl) (by kernel_rfl)) ?_
  intro W base args ds gs before hval0 hW hcnd _
  have hval : ∀ (j : Nat) t v, Try.f4.params[j]? = some t → args[j]? = some v → Value.okWide Try.prog W .any base t v := hval0
  have hW' := hW
  obtain ⟨p, q, hA0, hV, rfl, hfz, hnd⟩ := hW
  have hA : DataW.TrodAll enc Try.prog W 0 (fun _ => true) true Try.f4.params.toList args.toList ds p := hA0
  rw [Try.params4] at hA hval
  obtain ⟨v0, vs0, d0, ds0, p0, q0, hargs, rfl, rfl, h0, r0⟩ := trodAll_cons hA
  obtain ⟨v1, vs1, d1, ds1, p1, q1, rfl, rfl, rfl, h1, r1⟩ := trodAll_cons r0
  obtain ⟨v2, vs2, d2, ds2, p2, q2, rfl, rfl, rfl, h2, r2⟩ := trodAll_cons r1
  obtain ⟨rfl, rfl, rfl⟩ := trodAll_nil r2
  obtain rfl : args = #[v0, v1, v2] := by cases args; simp_all
  obtain ⟨rfl, rfl⟩ := trodVars_none hV
  obtain ⟨a0, rfl, rfl, rfl, w0⟩ := open_string Try.underlying9 (hval 0 9 v0 rfl rfl) h0
  obtain ⟨a1, rfl, rfl, rfl, w1⟩ := open_string Try.underlying9 (hval 1 9 v1 rfl rfl) h1
  obtain ⟨a2, rfl, rfl, rfl, w2⟩ := open_string Try.underlying9 (hval 2 9 v2 rfl rfl) h2
  clear hA0 hval0
  simp only [List.append_nil] at hW'
  refine (walk a0 a1 a2 w0 w1 w2 W).mono fun e W' ⟨he, hg⟩ => ?_
  subst he
  exact ⟨_, rfl, post_of_same (pa := []) (pv := []) hW' (fun _ _ _ => (trodAll_cons_mk (shut_bool Try.underlying4 _) trodAll_mk0)) (fun sp _ => (trodAll_cons_mk (shut_string Try.underlying9 w0) (trodAll_cons_mk (shut_string Try.underlying9 w1) (trodAll_cons_mk (shut_string Try.underlying9 w2) trodAll_mk0)))) (fun _ _ => rfl) rfl
    (hg.frame _) hg.2.1 (ok_one (by kernel_rfl) rfl (okWide_bool_mk Try.underlying4 _))⟩

theorem over : Rows.fnListPrefixMarksExactlyItsKeysItemsRow.holds Try.pinned (OpenSpec.ofChange Rows.fnListPrefixMarksExactlyItsKeysItemsSpec) :=
  OpenClaim.holds_of_wide 4 Try.f4 rfl rfl rfl rfl rfl rfl rfl ⟨rfl, rfl, rfl, rfl, rfl⟩ rfl rfl rfl rfl rfl (by kernel_rfl) Try.func4 (by kernel_rfl)
    (of_decide_eq_true (by kernel_rfl)) (by unfold Func.isWrapper; first | (rw [if_pos (by decide +kernel)]; kernel_rfl) | (rw [if_neg (by decide +kernel)]; exact ⟨rfl, rfl⟩))
    (fun os started H enc _ => lifted os started H enc)

/-- ████ THE STATEMENT ████ -/
theorem proved : Rows.FnListPrefixMarksExactlyItsKeysItemsSaid :=
  over
end Go.Proofs.Qxb6605611a.fnListPrefixMarksExactlyItsKeysItems
namespace Go.Proofs.Qxb6605611a
theorem fnListPrefixMarksExactlyItsKeysItems_proved : Rows.FnListPrefixMarksExactlyItsKeysItemsSaid := fnListPrefixMarksExactlyItsKeysItems.proved
end Go.Proofs.Qxb6605611a
