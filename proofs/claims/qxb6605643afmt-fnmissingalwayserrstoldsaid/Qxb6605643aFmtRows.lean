/-
  No cell of these rows narrows 'for every input' (looked for: loops, veiled, ifaces, maps, wideKeys, modest, calm, conditions, laid).
  DERIVED. THE GIVEN ROWS OF THIS SEAT. 1 by the template 'for every input the law returns true; each argument reads behind the call as it read before'; 0 by the template 'total and deterministic' (their statements: Qxb6605643aFmtTotals.lean).
  GIVEN WITH THE SEED: the statements are not yours to turn. If you find one false, say at which input.
  Laid BY PROGRAM, IN A SANDBOX (cutbox-rows.mjs): the forced cells as the released guide's own fill.sh prints them over the translation 5b8b30ec54b5a365… (all of the seat's roots in one cut). By AI agents, Wed Nov 11 2026. No macro, syntax, notation, axiom, sorry.
-/
import Derived.Test.Qxb6605643aFmtChecked
import GoSem.Claim
import GoSem.ClaimJoined
import GoSem.ClaimMapViews
import Derived.JoinedTies
import Derived.KernelRfl
namespace Go.Proofs.Qxb6605643aFmt
/- THE CELL 'sum', in the pinned program and in every row, IS THE sha256 OF THE DUMP (.gsa) THAT Qxb6605643aFmtProg.lean LOADS. Nothing in Lean hashes anything: it is a label: what it is worth is what the hold of that sum in a sandbox is worth. -/
noncomputable def Tryf.pinned : Pinned := { name := "qxb6605643afmt", sum := "5b8b30ec54b5a36500ae3e49d39f21c718cdeee91d69065b9a759eb2e9a3527d", checked := Tryf.checked }
namespace Rows
def none {H : Type} : Left H := { results := [], args := [] }

/-- 'zzlaws_internal_terms_b1.FnMissingAlwaysErrs': WHATEVER THE INPUT: true; the input reads as it did. -/
def fnMissingAlwaysErrsSpec : ChangeSpec := { name := "fnMissingAlwaysErrs", fn := fun _ => fun
  | [d] => { results := [.lit (.bool true)], args := [d] }
  | _ => none }
def fnMissingAlwaysErrsRow : OpenClaim := { program := "qxb6605643afmt", sum := "5b8b30ec54b5a36500ae3e49d39f21c718cdeee91d69065b9a759eb2e9a3527d", func := "example.com/zhaomu/zhaomu/zzlaws_internal_terms_b1.FnMissingAlwaysErrs", spec := "fnMissingAlwaysErrs", stops := ["fmt.errorf"], inPlace := ["fmt.errorf"], apart := false }
/-- NO THEOREM (fmt's text is open here; it may be false): for the released tool's asking of the row's closed facts alone. THE STATEMENT IS 'FnMissingAlwaysErrsToldSaid' (Qxb6605643aFmtCards.lean). -/
def FnMissingAlwaysErrsFormAsk : Prop := fnMissingAlwaysErrsRow.holds Tryf.pinned (OpenSpec.ofChange fnMissingAlwaysErrsSpec)

/-- ITS FALSE NEIGHBOUR: 'it returns false'. Refute it at one input. -/
def fnMissingAlwaysErrsWrong : ChangeSpec := { name := "fnMissingAlwaysErrs", fn := fun _ => fun
  | [d] => { results := [.lit (.bool false)], args := [d] }
  | _ => none }
def FnMissingAlwaysErrsWrongFormAsk : Prop := fnMissingAlwaysErrsRow.holds Tryf.pinned (OpenSpec.ofChange fnMissingAlwaysErrsWrong)

end Rows
end Go.Proofs.Qxb6605643aFmt
