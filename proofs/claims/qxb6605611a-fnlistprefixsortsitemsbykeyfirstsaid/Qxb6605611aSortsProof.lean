import Derived.Test.Qxb6605611aRows
import Derived.WalkKit
import Derived.ProofKit
import Derived.OpenShut
import Derived.ShutString
import Derived.Test.Qxb6605611aA1
namespace Go.Proofs.Qxb6605611a.fnListPrefixSortsItemsByKeyFirst
open Go.ChangeShapes Go.WideShapes Go.ChangeAt Go.RowKit
open Go.ChangeMaps (open_string shut_string)
set_option linter.unusedVariables false      -- a walk need not use every 'w<i>' (that an integer argument fits its kind)

theorem own : ownKnob Try.prog.godebug = none := by kernel_rfl

theorem abSp_mem {s : ByteArray} (h : abSp s = true) : ∀ c ∈ s.data.toList, 32 < c := by
  intro c hc
  have := List.all_eq_true.1 h c hc
  simpa using this

theorem key_list (a r : ByteArray) : (a ++ ⟨#[32]⟩ ++ r).toList = a.data.toList ++ 32 :: r.data.toList := by
  rw [ByteArray.toList_eq]
  simp

theorem sorts_ne (a ra b rb : ByteArray) (ha : abSp a = true) (hb : abSp b = true) (hq : (a.toList == b.toList) = false) : (cmpL (a ++ ⟨#[32]⟩ ++ ra).toList (b ++ ⟨#[32]⟩ ++ rb).toList == cmpL a.toList b.toList) = true := by
  rw [beq_iff_eq, key_list, key_list, ByteArray.toList_eq a, ByteArray.toList_eq b]
  rw [ByteArray.toList_eq a, ByteArray.toList_eq b] at hq
  exact cmpL_key _ _ _ _ (abSp_mem ha) (abSp_mem hb) (by simpa using hq)

theorem sorts_eq (a ra b rb : ByteArray) (hq : (a.toList == b.toList) = true) : (cmpL (a ++ ⟨#[32]⟩ ++ ra).toList (b ++ ⟨#[32]⟩ ++ rb).toList == cmpL ra.toList rb.toList) = true := by
  rw [beq_iff_eq, key_list, key_list, ByteArray.toList_eq ra, ByteArray.toList_eq rb]
  rw [ByteArray.toList_eq a, ByteArray.toList_eq b, beq_iff_eq] at hq
  rw [hq, cmpL_append, cmpL_cons]

/-! ### STEP 1: THE WALK: the Go text returns true. 'Grown w w'': the world has at most new blocks (Derived/RowKit3.lean). Part the cases AHEAD of 'go_enter' where a test parts the walk; take each callee by a contract of your own. -/
theorem walk (a0 : ByteArray) (a1 : ByteArray) (a2 : ByteArray) (a3 : ByteArray) (w0 : a0.size ≤ maxLen) (w1 : a1.size ≤ maxLen) (w2 : a2.size ≤ maxLen) (w3 : a3.size ≤ maxLen) (w : World) :
    Calls Try.prog 5 #[.string a0, .string a1, .string a2, .string a3] w fun e w' => e = .returned (.bool true) ∧ Grown w w' := by
  have L0 : Hid (a0.size ≤ maxLen) := w0
  have L1 : Hid (a1.size ≤ maxLen) := w1
  have L2 : Hid (a2.size ≤ maxLen) := w2
  have L3 : Hid (a3.size ≤ maxLen) := w3
  unfold maxLen at w0 w1 w2 w3
  go_enter Try.func5, Try.ntmps5
  go_wp2_with fail
  refine (bytes15 a0 a1 a2 a3 L0.out L1.out L2.out L3.out w).mono ?_
  rintro e w' ⟨⟨v, rfl⟩, rfl⟩
  clear L0 L1 L2 L3
  cases v
  · go_wp2_with fail
    go_ret
    exact ⟨rfl, Grown.refl _⟩
  by_cases b0 : 262144 < a0.size
  · go_wp2_with fail
    go_ret
    exact ⟨rfl, Grown.refl _⟩
  by_cases b1 : 262144 < a1.size
  · go_wp2_with fail
    go_ret
    exact ⟨rfl, Grown.refl _⟩
  by_cases b2 : 262144 < a2.size
  · go_wp2_with fail
    go_ret
    exact ⟨rfl, Grown.refl _⟩
  by_cases b3 : 262144 < a3.size
  · go_wp2_with fail
    go_ret
    exact ⟨rfl, Grown.refl _⟩
  go_wp2_with fail
  refine (allAbove a0 (by omega) _).mono ?_
  rintro e w' ⟨rfl, rfl⟩
  cases s0 : abSp a0
  · go_wp2_with fail
    go_ret
    exact ⟨rfl, Grown.refl _⟩
  go_wp2_with fail
  refine (allAbove a2 (by omega) _).mono ?_
  rintro e w' ⟨rfl, rfl⟩
  cases s1 : abSp a2
  · go_wp2_with fail
    go_ret
    exact ⟨rfl, Grown.refl _⟩
  cases q : (a0.toList == a2.toList)
  · have H : Hid ((cmpL (a0 ++ ⟨#[32]⟩ ++ a1).toList (a2 ++ ⟨#[32]⟩ ++ a3).toList == cmpL a0.toList a2.toList) = true) := sorts_ne a0 a1 a2 a3 s0 s1 q
    clear s0 s1
    go_wp2_with fail
    refine (listPrefix a0 (by omega) _).mono ?_
    rintro e w' ⟨rfl, rfl⟩
    go_wp2_with fail
    refine (listPrefix a2 (by omega) _).mono ?_
    rintro e w' ⟨rfl, rfl⟩
    go_wp2_with fail
    refine (cmpStr a0 a2 _).mono ?_
    rintro e w' ⟨rfl, rfl⟩
    go_wp2_with fail
    refine (cmpStr _ _ _).mono ?_
    rintro e w' ⟨rfl, rfl⟩
    go_wp2_with fail
    go_ret
    exact ⟨congrArg (fun b => Ending.returned (Value.bool b)) H.out, Grown.refl _⟩
  · have H : Hid ((cmpL (a0 ++ ⟨#[32]⟩ ++ a1).toList (a2 ++ ⟨#[32]⟩ ++ a3).toList == cmpL a1.toList a3.toList) = true) := sorts_eq a0 a1 a2 a3 q
    clear s0 s1
    go_wp2_with fail
    refine (listPrefix a0 (by omega) _).mono ?_
    rintro e w' ⟨rfl, rfl⟩
    go_wp2_with fail
    refine (listPrefix a2 (by omega) _).mono ?_
    rintro e w' ⟨rfl, rfl⟩
    go_wp2_with fail
    refine (cmpStr a0 a2 _).mono ?_
    rintro e w' ⟨rfl, rfl⟩
    go_wp2_with fail
    refine (cmpStr a1 a3 _).mono ?_
    rintro e w' ⟨rfl, rfl⟩
    go_wp2_with fail
    refine (cmpStr _ _ _).mono ?_
    rintro e w' ⟨rfl, rfl⟩
    go_wp2_with fail
    go_ret
    exact ⟨congrArg (fun b => Ending.returned (Value.bool b)) H.out, Grown.refl _⟩

/-! ### THE ROW's STEP: WRITTEN OUT: LEAVE IT -/
set_option maxRecDepth 100000 in
theorem lifted (os : Os) (started : os.Started) (H : Type) (enc : TypeId × Value → H) :
    ReturnsInHanded {} Try.checked os 5 .any (Rows.fnListPrefixSortsItemsByKeyFirstSpec.pre6 enc Try.prog Try.f5 Rows.fnListPrefixSortsItemsByKeyFirstRow.domain false) (Rows.fnListPrefixSortsItemsByKeyFirstSpec.post enc Try.prog Try.f5 false true false false) := by
  refine returnsInHanded_of_change (C := Try.checked) own started (by kernel_rfl) Try.func5
    (ChangeSpec.witness6 (enc := enc) (C := Try.checked) false ⟨#[], #[.string ByteArray.empty, .string ByteArray.empty, .string ByteArray.empty, .string ByteArray.empty], []⟩ 8 (by kernel_rfl) (by kernel_rfl) (by kernel_rfl) (by kernel_rfl)) ?_
  intro W base args ds gs before hval0 hW hcnd _
  have hval : ∀ (j : Nat) t v, Try.f5.params[j]? = some t → args[j]? = some v → Value.okWide Try.prog W .any base t v := hval0
  have hW' := hW
  obtain ⟨p, q, hA0, hV, rfl, hfz, hnd⟩ := hW
  have hA : DataW.TrodAll enc Try.prog W 0 (fun _ => true) true Try.f5.params.toList args.toList ds p := hA0
  rw [Try.params5] at hA hval
  obtain ⟨v0, vs0, d0, ds0, p0, q0, hargs, rfl, rfl, h0, r0⟩ := trodAll_cons hA
  obtain ⟨v1, vs1, d1, ds1, p1, q1, rfl, rfl, rfl, h1, r1⟩ := trodAll_cons r0
  obtain ⟨v2, vs2, d2, ds2, p2, q2, rfl, rfl, rfl, h2, r2⟩ := trodAll_cons r1
  obtain ⟨v3, vs3, d3, ds3, p3, q3, rfl, rfl, rfl, h3, r3⟩ := trodAll_cons r2
  obtain ⟨rfl, rfl, rfl⟩ := trodAll_nil r3
  obtain rfl : args = #[v0, v1, v2, v3] := by cases args; simp_all
  obtain ⟨rfl, rfl⟩ := trodVars_none hV
  obtain ⟨a0, rfl, rfl, rfl, w0⟩ := open_string Try.underlying9 (hval 0 9 v0 rfl rfl) h0
  obtain ⟨a1, rfl, rfl, rfl, w1⟩ := open_string Try.underlying9 (hval 1 9 v1 rfl rfl) h1
  obtain ⟨a2, rfl, rfl, rfl, w2⟩ := open_string Try.underlying9 (hval 2 9 v2 rfl rfl) h2
  obtain ⟨a3, rfl, rfl, rfl, w3⟩ := open_string Try.underlying9 (hval 3 9 v3 rfl rfl) h3
  clear hA0 hval0
  simp only [List.append_nil] at hW'
  refine (walk a0 a1 a2 a3 w0 w1 w2 w3 W).mono fun e W' ⟨he, hg⟩ => ?_
  subst he
  exact ⟨_, rfl, post_of_same (pa := []) (pv := []) hW' (fun _ _ _ => (trodAll_cons_mk (shut_bool Try.underlying4 _) trodAll_mk0)) (fun sp _ => (trodAll_cons_mk (shut_string Try.underlying9 w0) (trodAll_cons_mk (shut_string Try.underlying9 w1) (trodAll_cons_mk (shut_string Try.underlying9 w2) (trodAll_cons_mk (shut_string Try.underlying9 w3) trodAll_mk0))))) (fun _ _ => rfl) rfl
    (hg.frame _) hg.2.1 (ok_one (by kernel_rfl) rfl (okWide_bool_mk Try.underlying4 _))⟩

theorem over : Rows.fnListPrefixSortsItemsByKeyFirstRow.holds Try.pinned (OpenSpec.ofChange Rows.fnListPrefixSortsItemsByKeyFirstSpec) :=
  OpenClaim.holds_of_wide 5 Try.f5 rfl rfl rfl rfl rfl rfl rfl ⟨rfl, rfl, rfl, rfl, rfl⟩ rfl rfl rfl rfl rfl (by kernel_rfl) Try.func5 (by kernel_rfl)
    (of_decide_eq_true (by kernel_rfl)) (by unfold Func.isWrapper; first | (rw [if_pos (by decide +kernel)]; kernel_rfl) | (rw [if_neg (by decide +kernel)]; exact ⟨rfl, rfl⟩))
    (fun os started H enc _ => lifted os started H enc)

/-- ████ THE STATEMENT ████ -/
theorem proved : Rows.FnListPrefixSortsItemsByKeyFirstSaid :=
  over
end Go.Proofs.Qxb6605611a.fnListPrefixSortsItemsByKeyFirst
namespace Go.Proofs.Qxb6605611a
theorem fnListPrefixSortsItemsByKeyFirst_proved : Rows.FnListPrefixSortsItemsByKeyFirstSaid := fnListPrefixSortsItemsByKeyFirst.proved
end Go.Proofs.Qxb6605611a
