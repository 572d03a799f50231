/-
  No cell of these rows narrows 'for every input' (looked for: loops, veiled, ifaces, maps, wideKeys, modest, calm, conditions, laid).
  DERIVED. THE GIVEN ROWS OF THIS SEAT. 4 by the template 'for every input the law returns true; each argument reads behind the call as it read before'; 0 by the template 'total and deterministic' (their statements: Qxb6604321aTotals.lean).
  GIVEN WITH THE SEED: the statements are not yours to turn. If you find one false, say at which input.
  Laid BY PROGRAM, IN A SANDBOX (cutbox-rows.mjs): the forced cells as the released guide's own fill.sh prints them over the translation ef156cc340f2f5df… (all of the seat's roots in one cut). By AI agents, Wed Nov 11 2026. No macro, syntax, notation, axiom, sorry.
-/
import Derived.Test.Qxb6604321aChecked
import GoSem.Claim
import GoSem.ClaimJoined
import GoSem.ClaimMapViews
import Derived.JoinedTies
import Derived.KernelRfl
namespace Go.Proofs.Qxb6604321a
/- THE CELL 'sum', in the pinned program and in every row, IS THE sha256 OF THE DUMP (.gsa) THAT Qxb6604321aProg.lean LOADS. Nothing in Lean hashes anything: it is a label: what it is worth is what the hold of that sum in a sandbox is worth. -/
noncomputable def Try.pinned : Pinned := { name := "qxb6604321a", sum := "ef156cc340f2f5df7560c328103240b4fb65ada4cdfc6799f2de4a6feb6fe67b", checked := Try.checked }
namespace Rows
def none {H : Type} : Left H := { results := [], args := [] }

/-- 'zzlaws_internal_http1_b1.FnDecodeEqualsRightToLeftModel': WHATEVER THE INPUT: true; the input reads as it did. -/
def fnDecodeEqualsRightToLeftModelSpec : ChangeSpec := { name := "fnDecodeEqualsRightToLeftModel", fn := fun _ => fun
  | [d1, d2, d3, d4] => { results := [.lit (.bool true)], args := [d1, d2, d3, d4] }
  | _ => none }
def fnDecodeEqualsRightToLeftModelRow : OpenClaim := { program := "qxb6604321a", sum := "ef156cc340f2f5df7560c328103240b4fb65ada4cdfc6799f2de4a6feb6fe67b", func := "example.com/rolevane/rolevane/zzlaws_internal_http1_b1.FnDecodeEqualsRightToLeftModel", spec := "fnDecodeEqualsRightToLeftModel", apart := false }
def FnDecodeEqualsRightToLeftModelSaid : Prop := fnDecodeEqualsRightToLeftModelRow.holds Try.pinned (OpenSpec.ofChange fnDecodeEqualsRightToLeftModelSpec)

/-- ITS FALSE NEIGHBOUR: 'it returns false'. Refute it at one input. -/
def fnDecodeEqualsRightToLeftModelWrong : ChangeSpec := { name := "fnDecodeEqualsRightToLeftModel", fn := fun _ => fun
  | [d1, d2, d3, d4] => { results := [.lit (.bool false)], args := [d1, d2, d3, d4] }
  | _ => none }
def FnDecodeEqualsRightToLeftModelWrongFalsely : Prop := fnDecodeEqualsRightToLeftModelRow.holds Try.pinned (OpenSpec.ofChange fnDecodeEqualsRightToLeftModelWrong)

/-- 'zzlaws_internal_http1_b1.FnDecodeInvertsPercentEncoding': WHATEVER THE INPUT: true; the input reads as it did. -/
def fnDecodeInvertsPercentEncodingSpec : ChangeSpec := { name := "fnDecodeInvertsPercentEncoding", fn := fun _ => fun
  | [d1, d2, d3, d4, d5, d6] => { results := [.lit (.bool true)], args := [d1, d2, d3, d4, d5, d6] }
  | _ => none }
def fnDecodeInvertsPercentEncodingRow : OpenClaim := { program := "qxb6604321a", sum := "ef156cc340f2f5df7560c328103240b4fb65ada4cdfc6799f2de4a6feb6fe67b", func := "example.com/rolevane/rolevane/zzlaws_internal_http1_b1.FnDecodeInvertsPercentEncoding", spec := "fnDecodeInvertsPercentEncoding", apart := false }
def FnDecodeInvertsPercentEncodingSaid : Prop := fnDecodeInvertsPercentEncodingRow.holds Try.pinned (OpenSpec.ofChange fnDecodeInvertsPercentEncodingSpec)

/-- ITS FALSE NEIGHBOUR: 'it returns false'. Refute it at one input. -/
def fnDecodeInvertsPercentEncodingWrong : ChangeSpec := { name := "fnDecodeInvertsPercentEncoding", fn := fun _ => fun
  | [d1, d2, d3, d4, d5, d6] => { results := [.lit (.bool false)], args := [d1, d2, d3, d4, d5, d6] }
  | _ => none }
def FnDecodeInvertsPercentEncodingWrongFalsely : Prop := fnDecodeInvertsPercentEncodingRow.holds Try.pinned (OpenSpec.ofChange fnDecodeInvertsPercentEncodingWrong)

/-- 'zzlaws_internal_http1_b1.FnUnescapeEqualsModelWithCache': WHATEVER THE INPUT: true; the input reads as it did. -/
def fnUnescapeEqualsModelWithCacheSpec : ChangeSpec := { name := "fnUnescapeEqualsModelWithCache", fn := fun _ => fun
  | [d1, d2, d3, d4] => { results := [.lit (.bool true)], args := [d1, d2, d3, d4] }
  | _ => none }
def fnUnescapeEqualsModelWithCacheRow : OpenClaim := { program := "qxb6604321a", sum := "ef156cc340f2f5df7560c328103240b4fb65ada4cdfc6799f2de4a6feb6fe67b", func := "example.com/rolevane/rolevane/zzlaws_internal_http1_b1.FnUnescapeEqualsModelWithCache", spec := "fnUnescapeEqualsModelWithCache", inPlace := ["internal/bytealg.IndexByteString", "internal/bytealg.IndexString"], named := ["internal/bytealg.MaxLen"], apart := false }
def FnUnescapeEqualsModelWithCacheSaid : Prop := fnUnescapeEqualsModelWithCacheRow.holds Try.pinned (OpenSpec.ofChange fnUnescapeEqualsModelWithCacheSpec)

/-- ITS FALSE NEIGHBOUR: 'it returns false'. Refute it at one input. -/
def fnUnescapeEqualsModelWithCacheWrong : ChangeSpec := { name := "fnUnescapeEqualsModelWithCache", fn := fun _ => fun
  | [d1, d2, d3, d4] => { results := [.lit (.bool false)], args := [d1, d2, d3, d4] }
  | _ => none }
def FnUnescapeEqualsModelWithCacheWrongFalsely : Prop := fnUnescapeEqualsModelWithCacheRow.holds Try.pinned (OpenSpec.ofChange fnUnescapeEqualsModelWithCacheWrong)

/-- 'zzlaws_internal_http1_b1.FnUnescapeScriptKeepsCacheSound': WHATEVER THE INPUT: true; the input reads as it did. -/
def fnUnescapeScriptKeepsCacheSoundSpec : ChangeSpec := { name := "fnUnescapeScriptKeepsCacheSound", fn := fun _ => fun
  | [d1, d2] => { results := [.lit (.bool true)], args := [d1, d2] }
  | _ => none }
def fnUnescapeScriptKeepsCacheSoundRow : OpenClaim := { program := "qxb6604321a", sum := "ef156cc340f2f5df7560c328103240b4fb65ada4cdfc6799f2de4a6feb6fe67b", func := "example.com/rolevane/rolevane/zzlaws_internal_http1_b1.FnUnescapeScriptKeepsCacheSound", spec := "fnUnescapeScriptKeepsCacheSound", inPlace := ["internal/bytealg.IndexByteString", "internal/bytealg.IndexString"], named := ["internal/bytealg.MaxLen"], apart := false }
def FnUnescapeScriptKeepsCacheSoundSaid : Prop := fnUnescapeScriptKeepsCacheSoundRow.holds Try.pinned (OpenSpec.ofChange fnUnescapeScriptKeepsCacheSoundSpec)

/-- ITS FALSE NEIGHBOUR: 'it returns false'. Refute it at one input. -/
def fnUnescapeScriptKeepsCacheSoundWrong : ChangeSpec := { name := "fnUnescapeScriptKeepsCacheSound", fn := fun _ => fun
  | [d1, d2] => { results := [.lit (.bool false)], args := [d1, d2] }
  | _ => none }
def FnUnescapeScriptKeepsCacheSoundWrongFalsely : Prop := fnUnescapeScriptKeepsCacheSoundRow.holds Try.pinned (OpenSpec.ofChange fnUnescapeScriptKeepsCacheSoundWrong)

end Rows
end Go.Proofs.Qxb6604321a
