/-
  No cell of these rows narrows 'for every input' (looked for: loops, veiled, ifaces, maps, wideKeys, modest, calm, conditions, laid).
  DERIVED. THE GIVEN ROWS OF THIS SEAT. 2 by the template 'for every input the law returns true; each argument reads behind the call as it read before'; 0 by the template 'total and deterministic' (their statements: Qxb6619461aTotals.lean).
  GIVEN WITH THE SEED: the statements are not yours to turn. If you find one false, say at which input.
  Laid BY PROGRAM, IN A SANDBOX (cutbox-rows.mjs): the forced cells as the released guide's own fill.sh prints them over the translation 2c0c294973ccaa0c… (all of the seat's roots in one cut). By AI agents, Wed Nov 11 2026. No macro, syntax, notation, axiom, sorry.
-/
import Derived.Test.Qxb6619461aChecked
import GoSem.Claim
import GoSem.ClaimJoined
import GoSem.ClaimMapViews
import Derived.JoinedTies
import Derived.KernelRfl
namespace Go.Proofs.Qxb6619461a
/- THE CELL 'sum', in the pinned program and in every row, IS THE sha256 OF THE DUMP (.gsa) THAT Qxb6619461aProg.lean LOADS. Nothing in Lean hashes anything: it is a label: what it is worth is what the hold of that sum in a sandbox is worth. -/
noncomputable def Try.pinned : Pinned := { name := "qxb6619461a", sum := "2c0c294973ccaa0c7e957e231a162a9be0ede5d823fd2527ddf2a05851e562c1", checked := Try.checked }
namespace Rows
def none {H : Type} : Left H := { results := [], args := [] }

/-- 'zzlaws_internal_header_b1.FnBeginsIsTextBeforeNewline': WHATEVER THE INPUT: true; the input reads as it did. -/
def fnBeginsIsTextBeforeNewlineSpec : ChangeSpec := { name := "fnBeginsIsTextBeforeNewline", fn := fun _ => fun
  | [d1, d2] => { results := [.lit (.bool true)], args := [d1, d2] }
  | _ => none }
def fnBeginsIsTextBeforeNewlineRow : OpenClaim := { program := "qxb6619461a", sum := "2c0c294973ccaa0c7e957e231a162a9be0ede5d823fd2527ddf2a05851e562c1", func := "example.com/tagwright/tagwright/zzlaws_internal_header_b1.FnBeginsIsTextBeforeNewline", spec := "fnBeginsIsTextBeforeNewline", apart := false }
def FnBeginsIsTextBeforeNewlineSaid : Prop := fnBeginsIsTextBeforeNewlineRow.holds Try.pinned (OpenSpec.ofChange fnBeginsIsTextBeforeNewlineSpec)

/-- ITS FALSE NEIGHBOUR: 'it returns false'. Refute it at one input. -/
def fnBeginsIsTextBeforeNewlineWrong : ChangeSpec := { name := "fnBeginsIsTextBeforeNewline", fn := fun _ => fun
  | [d1, d2] => { results := [.lit (.bool false)], args := [d1, d2] }
  | _ => none }
def FnBeginsIsTextBeforeNewlineWrongFalsely : Prop := fnBeginsIsTextBeforeNewlineRow.holds Try.pinned (OpenSpec.ofChange fnBeginsIsTextBeforeNewlineWrong)

/-- 'zzlaws_internal_header_b1.FnBeginsAcceptsItsOwnLine': WHATEVER THE INPUT: true; the input reads as it did. -/
def fnBeginsAcceptsItsOwnLineSpec : ChangeSpec := { name := "fnBeginsAcceptsItsOwnLine", fn := fun _ => fun
  | [d1, d2] => { results := [.lit (.bool true)], args := [d1, d2] }
  | _ => none }
def fnBeginsAcceptsItsOwnLineRow : OpenClaim := { program := "qxb6619461a", sum := "2c0c294973ccaa0c7e957e231a162a9be0ede5d823fd2527ddf2a05851e562c1", func := "example.com/tagwright/tagwright/zzlaws_internal_header_b1.FnBeginsAcceptsItsOwnLine", spec := "fnBeginsAcceptsItsOwnLine", apart := false }
def FnBeginsAcceptsItsOwnLineSaid : Prop := fnBeginsAcceptsItsOwnLineRow.holds Try.pinned (OpenSpec.ofChange fnBeginsAcceptsItsOwnLineSpec)

/-- ITS FALSE NEIGHBOUR: 'it returns false'. Refute it at one input. -/
def fnBeginsAcceptsItsOwnLineWrong : ChangeSpec := { name := "fnBeginsAcceptsItsOwnLine", fn := fun _ => fun
  | [d1, d2] => { results := [.lit (.bool false)], args := [d1, d2] }
  | _ => none }
def FnBeginsAcceptsItsOwnLineWrongFalsely : Prop := fnBeginsAcceptsItsOwnLineRow.holds Try.pinned (OpenSpec.ofChange fnBeginsAcceptsItsOwnLineWrong)

end Rows
end Go.Proofs.Qxb6619461a
