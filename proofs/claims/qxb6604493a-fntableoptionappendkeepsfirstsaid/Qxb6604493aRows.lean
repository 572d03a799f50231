/-
  No cell of these rows narrows 'for every input' (looked for: loops, veiled, ifaces, maps, wideKeys, modest, calm, conditions, laid).
  DERIVED. THE GIVEN ROWS OF THIS SEAT. 2 by the template 'for every input the law returns true; each argument reads behind the call as it read before'; 0 by the template 'total and deterministic' (their statements: Qxb6604493aTotals.lean).
  GIVEN WITH THE SEED: the statements are not yours to turn. If you find one false, say at which input.
  Laid BY PROGRAM, IN A SANDBOX (cutbox-rows.mjs): the forced cells as the released guide's own fill.sh prints them over the translation 458af76c4d3b1166… (all of the seat's roots in one cut). By AI agents, Wed Nov 11 2026. No macro, syntax, notation, axiom, sorry.
-/
import Derived.Test.Qxb6604493aChecked
import GoSem.Claim
import GoSem.ClaimJoined
import GoSem.ClaimMapViews
import Derived.JoinedTies
import Derived.KernelRfl
namespace Go.Proofs.Qxb6604493a
/- THE CELL 'sum', in the pinned program and in every row, IS THE sha256 OF THE DUMP (.gsa) THAT Qxb6604493aProg.lean LOADS. Nothing in Lean hashes anything: it is a label: what it is worth is what the hold of that sum in a sandbox is worth. -/
noncomputable def Try.pinned : Pinned := { name := "qxb6604493a", sum := "458af76c4d3b11663509bd299a6febff7e06abd29ac6fbe234daf29c5855eb56", checked := Try.checked }
namespace Rows
def none {H : Type} : Left H := { results := [], args := [] }

/-- 'zzlaws_pkg_schema_b1.FnTableOptionFirstMatch': WHATEVER THE INPUT: true; the input reads as it did. -/
def fnTableOptionFirstMatchSpec : ChangeSpec := { name := "fnTableOptionFirstMatch", fn := fun _ => fun
  | [d1, d2] => { results := [.lit (.bool true)], args := [d1, d2] }
  | _ => none }
def fnTableOptionFirstMatchRow : OpenClaim := { program := "qxb6604493a", sum := "458af76c4d3b11663509bd299a6febff7e06abd29ac6fbe234daf29c5855eb56", func := "example.com/lintel/lintel/zzlaws_pkg_schema_b1.FnTableOptionFirstMatch", spec := "fnTableOptionFirstMatch", unfollowed := true, recurses := true, apart := false }
def FnTableOptionFirstMatchSaid : Prop := fnTableOptionFirstMatchRow.holds Try.pinned (OpenSpec.ofChange fnTableOptionFirstMatchSpec)

/-- ITS FALSE NEIGHBOUR: 'it returns false'. Refute it at one input. -/
def fnTableOptionFirstMatchWrong : ChangeSpec := { name := "fnTableOptionFirstMatch", fn := fun _ => fun
  | [d1, d2] => { results := [.lit (.bool false)], args := [d1, d2] }
  | _ => none }
def FnTableOptionFirstMatchWrongFalsely : Prop := fnTableOptionFirstMatchRow.holds Try.pinned (OpenSpec.ofChange fnTableOptionFirstMatchWrong)

/-- 'zzlaws_pkg_schema_b1.FnTableOptionAppendKeepsFirst': WHATEVER THE INPUT: true; the input reads as it did. -/
def fnTableOptionAppendKeepsFirstSpec : ChangeSpec := { name := "fnTableOptionAppendKeepsFirst", fn := fun _ => fun
  | [d1, d2, d3, d4] => { results := [.lit (.bool true)], args := [d1, d2, d3, d4] }
  | _ => none }
def fnTableOptionAppendKeepsFirstRow : OpenClaim := { program := "qxb6604493a", sum := "458af76c4d3b11663509bd299a6febff7e06abd29ac6fbe234daf29c5855eb56", func := "example.com/lintel/lintel/zzlaws_pkg_schema_b1.FnTableOptionAppendKeepsFirst", spec := "fnTableOptionAppendKeepsFirst", unfollowed := true, recurses := true, apart := false }
def FnTableOptionAppendKeepsFirstSaid : Prop := fnTableOptionAppendKeepsFirstRow.holds Try.pinned (OpenSpec.ofChange fnTableOptionAppendKeepsFirstSpec)

/-- ITS FALSE NEIGHBOUR: 'it returns false'. Refute it at one input. -/
def fnTableOptionAppendKeepsFirstWrong : ChangeSpec := { name := "fnTableOptionAppendKeepsFirst", fn := fun _ => fun
  | [d1, d2, d3, d4] => { results := [.lit (.bool false)], args := [d1, d2, d3, d4] }
  | _ => none }
def FnTableOptionAppendKeepsFirstWrongFalsely : Prop := fnTableOptionAppendKeepsFirstRow.holds Try.pinned (OpenSpec.ofChange fnTableOptionAppendKeepsFirstWrong)

end Rows
end Go.Proofs.Qxb6604493a
