/-
  No cell of these rows narrows 'for every input' (looked for: loops, veiled, ifaces, maps, wideKeys, modest, calm, conditions, laid).
  DERIVED. THE GIVEN ROWS OF THIS SEAT. 4 by the template 'for every input the law returns true; each argument reads behind the call as it read before'; 0 by the template 'total and deterministic' (their statements: Qxb6604371aTotals.lean).
  GIVEN WITH THE SEED: the statements are not yours to turn. If you find one false, say at which input.
  Laid BY PROGRAM, IN A SANDBOX (cutbox-rows.mjs): the forced cells as the released guide's own fill.sh prints them over the translation 80298ed44b595a0e… (all of the seat's roots in one cut). By AI agents, Wed Nov 11 2026. No macro, syntax, notation, axiom, sorry.
-/
import Derived.Test.Qxb6604371aChecked
import GoSem.Claim
import GoSem.ClaimJoined
import GoSem.ClaimMapViews
import Derived.JoinedTies
import Derived.KernelRfl
namespace Go.Proofs.Qxb6604371a
/- THE CELL 'sum', in the pinned program and in every row, IS THE sha256 OF THE DUMP (.gsa) THAT Qxb6604371aProg.lean LOADS. Nothing in Lean hashes anything: it is a label: what it is worth is what the hold of that sum in a sandbox is worth. -/
noncomputable def Try.pinned : Pinned := { name := "qxb6604371a", sum := "80298ed44b595a0e95d6c959601450f4ecb99b51adcb416f0139c824e78b9772", checked := Try.checked }
namespace Rows
def none {H : Type} : Left H := { results := [], args := [] }

/-- 'zzlaws_register_b1.FnCheckOrderNamesTheLatestEvent': WHATEVER THE INPUT: true; the input reads as it did. -/
def fnCheckOrderNamesTheLatestEventSpec : ChangeSpec := { name := "fnCheckOrderNamesTheLatestEvent", fn := fun _ => fun
  | [d1, d2, d3, d4, d5, d6, d7] => { results := [.lit (.bool true)], args := [d1, d2, d3, d4, d5, d6, d7] }
  | _ => none }
def fnCheckOrderNamesTheLatestEventRow : OpenClaim := { program := "qxb6604371a", sum := "80298ed44b595a0e95d6c959601450f4ecb99b51adcb416f0139c824e78b9772", func := "example.com/zhaomu/zhaomu/zzlaws_register_b1.FnCheckOrderNamesTheLatestEvent", spec := "fnCheckOrderNamesTheLatestEvent", unfollowed := true, recurses := true, apart := false }
def FnCheckOrderNamesTheLatestEventSaid : Prop := fnCheckOrderNamesTheLatestEventRow.holds Try.pinned (OpenSpec.ofChange fnCheckOrderNamesTheLatestEventSpec)

/-- ITS FALSE NEIGHBOUR: 'it returns false'. Refute it at one input. -/
def fnCheckOrderNamesTheLatestEventWrong : ChangeSpec := { name := "fnCheckOrderNamesTheLatestEvent", fn := fun _ => fun
  | [d1, d2, d3, d4, d5, d6, d7] => { results := [.lit (.bool false)], args := [d1, d2, d3, d4, d5, d6, d7] }
  | _ => none }
def FnCheckOrderNamesTheLatestEventWrongFalsely : Prop := fnCheckOrderNamesTheLatestEventRow.holds Try.pinned (OpenSpec.ofChange fnCheckOrderNamesTheLatestEventWrong)

/-- 'zzlaws_register_b1.FnCheckOrderRefusesExactlyWhenSomethingIsLater': WHATEVER THE INPUT: true; the input reads as it did. -/
def fnCheckOrderRefusesExactlyWhenSomethingIsLaterSpec : ChangeSpec := { name := "fnCheckOrderRefusesExactlyWhenSomethingIsLater", fn := fun _ => fun
  | [d1, d2, d3, d4, d5, d6, d7] => { results := [.lit (.bool true)], args := [d1, d2, d3, d4, d5, d6, d7] }
  | _ => none }
def fnCheckOrderRefusesExactlyWhenSomethingIsLaterRow : OpenClaim := { program := "qxb6604371a", sum := "80298ed44b595a0e95d6c959601450f4ecb99b51adcb416f0139c824e78b9772", func := "example.com/zhaomu/zhaomu/zzlaws_register_b1.FnCheckOrderRefusesExactlyWhenSomethingIsLater", spec := "fnCheckOrderRefusesExactlyWhenSomethingIsLater", unfollowed := true, recurses := true, apart := false }
def FnCheckOrderRefusesExactlyWhenSomethingIsLaterSaid : Prop := fnCheckOrderRefusesExactlyWhenSomethingIsLaterRow.holds Try.pinned (OpenSpec.ofChange fnCheckOrderRefusesExactlyWhenSomethingIsLaterSpec)

/-- ITS FALSE NEIGHBOUR: 'it returns false'. Refute it at one input. -/
def fnCheckOrderRefusesExactlyWhenSomethingIsLaterWrong : ChangeSpec := { name := "fnCheckOrderRefusesExactlyWhenSomethingIsLater", fn := fun _ => fun
  | [d1, d2, d3, d4, d5, d6, d7] => { results := [.lit (.bool false)], args := [d1, d2, d3, d4, d5, d6, d7] }
  | _ => none }
def FnCheckOrderRefusesExactlyWhenSomethingIsLaterWrongFalsely : Prop := fnCheckOrderRefusesExactlyWhenSomethingIsLaterRow.holds Try.pinned (OpenSpec.ofChange fnCheckOrderRefusesExactlyWhenSomethingIsLaterWrong)

/-- 'zzlaws_register_b1.FnSortByHoldingEqualsMergeSortByKey': WHATEVER THE INPUT: true; the input reads as it did. -/
def fnSortByHoldingEqualsMergeSortByKeySpec : ChangeSpec := { name := "fnSortByHoldingEqualsMergeSortByKey", fn := fun _ => fun
  | [d1, d2, d3, d4] => { results := [.lit (.bool true)], args := [d1, d2, d3, d4] }
  | _ => none }
def fnSortByHoldingEqualsMergeSortByKeyRow : OpenClaim := { program := "qxb6604371a", sum := "80298ed44b595a0e95d6c959601450f4ecb99b51adcb416f0139c824e78b9772", func := "example.com/zhaomu/zhaomu/zzlaws_register_b1.FnSortByHoldingEqualsMergeSortByKey", spec := "fnSortByHoldingEqualsMergeSortByKey", inPlace := ["internal/reflectlite.ValueOf", "internal/reflectlite.Swapper", "(internal/reflectlite.Value).Len"], unfollowed := true, recurses := true, apart := false }
def FnSortByHoldingEqualsMergeSortByKeySaid : Prop := fnSortByHoldingEqualsMergeSortByKeyRow.holds Try.pinned (OpenSpec.ofChange fnSortByHoldingEqualsMergeSortByKeySpec)

/-- ITS FALSE NEIGHBOUR: 'it returns false'. Refute it at one input. -/
def fnSortByHoldingEqualsMergeSortByKeyWrong : ChangeSpec := { name := "fnSortByHoldingEqualsMergeSortByKey", fn := fun _ => fun
  | [d1, d2, d3, d4] => { results := [.lit (.bool false)], args := [d1, d2, d3, d4] }
  | _ => none }
def FnSortByHoldingEqualsMergeSortByKeyWrongFalsely : Prop := fnSortByHoldingEqualsMergeSortByKeyRow.holds Try.pinned (OpenSpec.ofChange fnSortByHoldingEqualsMergeSortByKeyWrong)

/-- 'zzlaws_register_b1.FnSortByHoldingIsOrderFree': WHATEVER THE INPUT: true; the input reads as it did. -/
def fnSortByHoldingIsOrderFreeSpec : ChangeSpec := { name := "fnSortByHoldingIsOrderFree", fn := fun _ => fun
  | [d1, d2, d3, d4] => { results := [.lit (.bool true)], args := [d1, d2, d3, d4] }
  | _ => none }
def fnSortByHoldingIsOrderFreeRow : OpenClaim := { program := "qxb6604371a", sum := "80298ed44b595a0e95d6c959601450f4ecb99b51adcb416f0139c824e78b9772", func := "example.com/zhaomu/zhaomu/zzlaws_register_b1.FnSortByHoldingIsOrderFree", spec := "fnSortByHoldingIsOrderFree", inPlace := ["internal/reflectlite.ValueOf", "internal/reflectlite.Swapper", "(internal/reflectlite.Value).Len"], unfollowed := true, recurses := true, apart := false }
def FnSortByHoldingIsOrderFreeSaid : Prop := fnSortByHoldingIsOrderFreeRow.holds Try.pinned (OpenSpec.ofChange fnSortByHoldingIsOrderFreeSpec)

/-- ITS FALSE NEIGHBOUR: 'it returns false'. Refute it at one input. -/
def fnSortByHoldingIsOrderFreeWrong : ChangeSpec := { name := "fnSortByHoldingIsOrderFree", fn := fun _ => fun
  | [d1, d2, d3, d4] => { results := [.lit (.bool false)], args := [d1, d2, d3, d4] }
  | _ => none }
def FnSortByHoldingIsOrderFreeWrongFalsely : Prop := fnSortByHoldingIsOrderFreeRow.holds Try.pinned (OpenSpec.ofChange fnSortByHoldingIsOrderFreeWrong)

end Rows
end Go.Proofs.Qxb6604371a
