/-
  No cell of these rows narrows 'for every input' (looked for: loops, veiled, ifaces, maps, wideKeys, modest, calm, conditions, laid).
  DERIVED. THE GIVEN ROWS OF THIS SEAT. 2 by the template 'for every input the law returns true; each argument reads behind the call as it read before'; 0 by the template 'total and deterministic' (their statements: Qxb6604754aTotals.lean).
  GIVEN WITH THE SEED: the statements are not yours to turn. If you find one false, say at which input.
  Laid BY PROGRAM, IN A SANDBOX (cutbox-rows.mjs): the forced cells as the released guide's own fill.sh prints them over the translation 2434cdc98cff14af… (all of the seat's roots in one cut). By AI agents, Wed Nov 11 2026. No macro, syntax, notation, axiom, sorry.
-/
import Derived.Test.Qxb6604754aChecked
import GoSem.Claim
import GoSem.ClaimJoined
import GoSem.ClaimMapViews
import Derived.JoinedTies
import Derived.KernelRfl
namespace Go.Proofs.Qxb6604754a
/- THE CELL 'sum', in the pinned program and in every row, IS THE sha256 OF THE DUMP (.gsa) THAT Qxb6604754aProg.lean LOADS. Nothing in Lean hashes anything: it is a label: what it is worth is what the hold of that sum in a sandbox is worth. -/
noncomputable def Try.pinned : Pinned := { name := "qxb6604754a", sum := "2434cdc98cff14afd6ad101ee9735d13e4988bf28a95da8a7c9b627dbf162738", checked := Try.checked }
namespace Rows
def none {H : Type} : Left H := { results := [], args := [] }

/-- 'zzlaws_sim_b1.FnLineupNextFirstAdmitted': WHATEVER THE INPUT: true; the input reads as it did. -/
def fnLineupNextFirstAdmittedSpec : ChangeSpec := { name := "fnLineupNextFirstAdmitted", fn := fun _ => fun
  | [d1, d2, d3, d4, d5, d6, d7] => { results := [.lit (.bool true)], args := [d1, d2, d3, d4, d5, d6, d7] }
  | _ => none }
def fnLineupNextFirstAdmittedRow : OpenClaim := { program := "qxb6604754a", sum := "2434cdc98cff14afd6ad101ee9735d13e4988bf28a95da8a7c9b627dbf162738", func := "example.com/sidestep/sidestep/zzlaws_sim_b1.FnLineupNextFirstAdmitted", spec := "fnLineupNextFirstAdmitted", apart := false }
def FnLineupNextFirstAdmittedSaid : Prop := fnLineupNextFirstAdmittedRow.holds Try.pinned (OpenSpec.ofChange fnLineupNextFirstAdmittedSpec)

/-- ITS FALSE NEIGHBOUR: 'it returns false'. Refute it at one input. -/
def fnLineupNextFirstAdmittedWrong : ChangeSpec := { name := "fnLineupNextFirstAdmitted", fn := fun _ => fun
  | [d1, d2, d3, d4, d5, d6, d7] => { results := [.lit (.bool false)], args := [d1, d2, d3, d4, d5, d6, d7] }
  | _ => none }
def FnLineupNextFirstAdmittedWrongFalsely : Prop := fnLineupNextFirstAdmittedRow.holds Try.pinned (OpenSpec.ofChange fnLineupNextFirstAdmittedWrong)

/-- 'zzlaws_sim_b1.FnLineupNextEnumerates': WHATEVER THE INPUT: true; the input reads as it did. -/
def fnLineupNextEnumeratesSpec : ChangeSpec := { name := "fnLineupNextEnumerates", fn := fun _ => fun
  | [d1, d2, d3, d4, d5, d6] => { results := [.lit (.bool true)], args := [d1, d2, d3, d4, d5, d6] }
  | _ => none }
def fnLineupNextEnumeratesRow : OpenClaim := { program := "qxb6604754a", sum := "2434cdc98cff14afd6ad101ee9735d13e4988bf28a95da8a7c9b627dbf162738", func := "example.com/sidestep/sidestep/zzlaws_sim_b1.FnLineupNextEnumerates", spec := "fnLineupNextEnumerates", apart := false }
def FnLineupNextEnumeratesSaid : Prop := fnLineupNextEnumeratesRow.holds Try.pinned (OpenSpec.ofChange fnLineupNextEnumeratesSpec)

/-- ITS FALSE NEIGHBOUR: 'it returns false'. Refute it at one input. -/
def fnLineupNextEnumeratesWrong : ChangeSpec := { name := "fnLineupNextEnumerates", fn := fun _ => fun
  | [d1, d2, d3, d4, d5, d6] => { results := [.lit (.bool false)], args := [d1, d2, d3, d4, d5, d6] }
  | _ => none }
def FnLineupNextEnumeratesWrongFalsely : Prop := fnLineupNextEnumeratesRow.holds Try.pinned (OpenSpec.ofChange fnLineupNextEnumeratesWrong)

end Rows
end Go.Proofs.Qxb6604754a
