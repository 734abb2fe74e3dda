/-
  No cell of these rows narrows 'for every input' (looked for: loops, veiled, ifaces, maps, wideKeys, modest, calm, conditions, laid).
  DERIVED. THE GIVEN ROWS OF THIS SEAT. 2 by the template 'for every input the law returns true; each argument reads behind the call as it read before'; 0 by the template 'total and deterministic' (their statements: Qxb6619460aTotals.lean).
  GIVEN WITH THE SEED: the statements are not yours to turn. If you find one false, say at which input.
  Laid BY PROGRAM, IN A SANDBOX (cutbox-rows.mjs): the forced cells as the released guide's own fill.sh prints them over the translation 413198279b4d8ae8… (all of the seat's roots in one cut). By AI agents, Wed Nov 11 2026. No macro, syntax, notation, axiom, sorry.
-/
import Derived.Test.Qxb6619460aChecked
import GoSem.Claim
import GoSem.ClaimJoined
import GoSem.ClaimMapViews
import Derived.JoinedTies
import Derived.KernelRfl
namespace Go.Proofs.Qxb6619460a
/- THE CELL 'sum', in the pinned program and in every row, IS THE sha256 OF THE DUMP (.gsa) THAT Qxb6619460aProg.lean LOADS. Nothing in Lean hashes anything: it is a label: what it is worth is what the hold of that sum in a sandbox is worth. -/
noncomputable def Try.pinned : Pinned := { name := "qxb6619460a", sum := "413198279b4d8ae8c548aa68f70bb7315fe6f39567c1bb15d252c2d02798223a", checked := Try.checked }
namespace Rows
def none {H : Type} : Left H := { results := [], args := [] }

/-- 'zzlaws_internal_ooxml_b1.FnColumnNameIsBijectiveBase26': WHATEVER THE INPUT: true; the input reads as it did. -/
def fnColumnNameIsBijectiveBase26Spec : ChangeSpec := { name := "fnColumnNameIsBijectiveBase26", fn := fun _ => fun
  | [d] => { results := [.lit (.bool true)], args := [d] }
  | _ => none }
def fnColumnNameIsBijectiveBase26Row : OpenClaim := { program := "qxb6619460a", sum := "413198279b4d8ae8c548aa68f70bb7315fe6f39567c1bb15d252c2d02798223a", func := "example.com/vestline/vestline/zzlaws_internal_ooxml_b1.FnColumnNameIsBijectiveBase26", spec := "fnColumnNameIsBijectiveBase26", apart := false }
def FnColumnNameIsBijectiveBase26Said : Prop := fnColumnNameIsBijectiveBase26Row.holds Try.pinned (OpenSpec.ofChange fnColumnNameIsBijectiveBase26Spec)

/-- ITS FALSE NEIGHBOUR: 'it returns false'. Refute it at one input. -/
def fnColumnNameIsBijectiveBase26Wrong : ChangeSpec := { name := "fnColumnNameIsBijectiveBase26", fn := fun _ => fun
  | [d] => { results := [.lit (.bool false)], args := [d] }
  | _ => none }
def FnColumnNameIsBijectiveBase26WrongFalsely : Prop := fnColumnNameIsBijectiveBase26Row.holds Try.pinned (OpenSpec.ofChange fnColumnNameIsBijectiveBase26Wrong)

/-- 'zzlaws_internal_ooxml_b1.FnColumnNameOrderMatchesNumbers': WHATEVER THE INPUT: true; the input reads as it did. -/
def fnColumnNameOrderMatchesNumbersSpec : ChangeSpec := { name := "fnColumnNameOrderMatchesNumbers", fn := fun _ => fun
  | [d1, d2] => { results := [.lit (.bool true)], args := [d1, d2] }
  | _ => none }
def fnColumnNameOrderMatchesNumbersRow : OpenClaim := { program := "qxb6619460a", sum := "413198279b4d8ae8c548aa68f70bb7315fe6f39567c1bb15d252c2d02798223a", func := "example.com/vestline/vestline/zzlaws_internal_ooxml_b1.FnColumnNameOrderMatchesNumbers", spec := "fnColumnNameOrderMatchesNumbers", apart := false }
def FnColumnNameOrderMatchesNumbersSaid : Prop := fnColumnNameOrderMatchesNumbersRow.holds Try.pinned (OpenSpec.ofChange fnColumnNameOrderMatchesNumbersSpec)

/-- ITS FALSE NEIGHBOUR: 'it returns false'. Refute it at one input. -/
def fnColumnNameOrderMatchesNumbersWrong : ChangeSpec := { name := "fnColumnNameOrderMatchesNumbers", fn := fun _ => fun
  | [d1, d2] => { results := [.lit (.bool false)], args := [d1, d2] }
  | _ => none }
def FnColumnNameOrderMatchesNumbersWrongFalsely : Prop := fnColumnNameOrderMatchesNumbersRow.holds Try.pinned (OpenSpec.ofChange fnColumnNameOrderMatchesNumbersWrong)

end Rows
end Go.Proofs.Qxb6619460a
