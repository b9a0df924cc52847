/-
  No cell of these rows narrows 'for every input' (looked for: loops, veiled, ifaces, maps, wideKeys, modest, calm, conditions, laid).
  DERIVED. THE GIVEN ROWS OF THIS SEAT. 5 by the template 'for every input the law returns true; each argument reads behind the call as it read before'; 0 by the template 'total and deterministic' (their statements: Qxb6605946aTotals.lean).
  GIVEN WITH THE SEED: the statements are not yours to turn. If you find one false, say at which input.
  Laid BY PROGRAM, IN A SANDBOX (cutbox-rows.mjs): the forced cells as the released guide's own fill.sh prints them over the translation 46a765167e36888a… (all of the seat's roots in one cut). By AI agents, Wed Nov 11 2026. No macro, syntax, notation, axiom, sorry.
-/
import Derived.Test.Qxb6605946aChecked
import GoSem.Claim
import GoSem.ClaimJoined
import GoSem.ClaimMapViews
import Derived.JoinedTies
import Derived.KernelRfl
namespace Go.Proofs.Qxb6605946a
/- THE CELL 'sum', in the pinned program and in every row, IS THE sha256 OF THE DUMP (.gsa) THAT Qxb6605946aProg.lean LOADS. Nothing in Lean hashes anything: it is a label: what it is worth is what the hold of that sum in a sandbox is worth. -/
noncomputable def Try.pinned : Pinned := { name := "qxb6605946a", sum := "46a765167e36888a638702370d1c11da753f5a56339b5fdadf511640138620ab", checked := Try.checked }
namespace Rows
def none {H : Type} : Left H := { results := [], args := [] }

/-- 'zzlaws_internal_wildcard_b1.FnMatchAnyLiteralPattern': WHATEVER THE INPUT: true; the input reads as it did. -/
def fnMatchAnyLiteralPatternSpec : ChangeSpec := { name := "fnMatchAnyLiteralPattern", fn := fun _ => fun
  | [d1, d2, d3, d4, d5] => { results := [.lit (.bool true)], args := [d1, d2, d3, d4, d5] }
  | _ => none }
def fnMatchAnyLiteralPatternRow : OpenClaim := { program := "qxb6605946a", sum := "46a765167e36888a638702370d1c11da753f5a56339b5fdadf511640138620ab", func := "example.com/orderly-policy/orderly-policy/zzlaws_internal_wildcard_b1.FnMatchAnyLiteralPattern", spec := "fnMatchAnyLiteralPattern", unfollowed := true, recurses := true, apart := false }
def FnMatchAnyLiteralPatternSaid : Prop := fnMatchAnyLiteralPatternRow.holds Try.pinned (OpenSpec.ofChange fnMatchAnyLiteralPatternSpec)

/-- ITS FALSE NEIGHBOUR: 'it returns false'. Refute it at one input. -/
def fnMatchAnyLiteralPatternWrong : ChangeSpec := { name := "fnMatchAnyLiteralPattern", fn := fun _ => fun
  | [d1, d2, d3, d4, d5] => { results := [.lit (.bool false)], args := [d1, d2, d3, d4, d5] }
  | _ => none }
def FnMatchAnyLiteralPatternWrongFalsely : Prop := fnMatchAnyLiteralPatternRow.holds Try.pinned (OpenSpec.ofChange fnMatchAnyLiteralPatternWrong)

/-- 'zzlaws_internal_wildcard_b1.FnNextSkipsLiteralPattern': WHATEVER THE INPUT: true; the input reads as it did. -/
def fnNextSkipsLiteralPatternSpec : ChangeSpec := { name := "fnNextSkipsLiteralPattern", fn := fun _ => fun
  | [d1, d2, d3, d4] => { results := [.lit (.bool true)], args := [d1, d2, d3, d4] }
  | _ => none }
def fnNextSkipsLiteralPatternRow : OpenClaim := { program := "qxb6605946a", sum := "46a765167e36888a638702370d1c11da753f5a56339b5fdadf511640138620ab", func := "example.com/orderly-policy/orderly-policy/zzlaws_internal_wildcard_b1.FnNextSkipsLiteralPattern", spec := "fnNextSkipsLiteralPattern", apart := false }
def FnNextSkipsLiteralPatternSaid : Prop := fnNextSkipsLiteralPatternRow.holds Try.pinned (OpenSpec.ofChange fnNextSkipsLiteralPatternSpec)

/-- ITS FALSE NEIGHBOUR: 'it returns false'. Refute it at one input. -/
def fnNextSkipsLiteralPatternWrong : ChangeSpec := { name := "fnNextSkipsLiteralPattern", fn := fun _ => fun
  | [d1, d2, d3, d4] => { results := [.lit (.bool false)], args := [d1, d2, d3, d4] }
  | _ => none }
def FnNextSkipsLiteralPatternWrongFalsely : Prop := fnNextSkipsLiteralPatternRow.holds Try.pinned (OpenSpec.ofChange fnNextSkipsLiteralPatternWrong)

/-- 'zzlaws_internal_wildcard_b1.FnCodeWalkNextAndMatchAny': WHATEVER THE INPUT: true; the input reads as it did. -/
def fnCodeWalkNextAndMatchAnySpec : ChangeSpec := { name := "fnCodeWalkNextAndMatchAny", fn := fun _ => fun
  | [d1, d2, d3] => { results := [.lit (.bool true)], args := [d1, d2, d3] }
  | _ => none }
def fnCodeWalkNextAndMatchAnyRow : OpenClaim := { program := "qxb6605946a", sum := "46a765167e36888a638702370d1c11da753f5a56339b5fdadf511640138620ab", func := "example.com/orderly-policy/orderly-policy/zzlaws_internal_wildcard_b1.FnCodeWalkNextAndMatchAny", spec := "fnCodeWalkNextAndMatchAny", unfollowed := true, recurses := true, apart := false }
def FnCodeWalkNextAndMatchAnySaid : Prop := fnCodeWalkNextAndMatchAnyRow.holds Try.pinned (OpenSpec.ofChange fnCodeWalkNextAndMatchAnySpec)

/-- ITS FALSE NEIGHBOUR: 'it returns false'. Refute it at one input. -/
def fnCodeWalkNextAndMatchAnyWrong : ChangeSpec := { name := "fnCodeWalkNextAndMatchAny", fn := fun _ => fun
  | [d1, d2, d3] => { results := [.lit (.bool false)], args := [d1, d2, d3] }
  | _ => none }
def FnCodeWalkNextAndMatchAnyWrongFalsely : Prop := fnCodeWalkNextAndMatchAnyRow.holds Try.pinned (OpenSpec.ofChange fnCodeWalkNextAndMatchAnyWrong)

/-- 'zzlaws_internal_wildcard_b1.FnCharNumberCountsCharacters': WHATEVER THE INPUT: true; the input reads as it did. -/
def fnCharNumberCountsCharactersSpec : ChangeSpec := { name := "fnCharNumberCountsCharacters", fn := fun _ => fun
  | [d1, d2] => { results := [.lit (.bool true)], args := [d1, d2] }
  | _ => none }
def fnCharNumberCountsCharactersRow : OpenClaim := { program := "qxb6605946a", sum := "46a765167e36888a638702370d1c11da753f5a56339b5fdadf511640138620ab", func := "example.com/orderly-policy/orderly-policy/zzlaws_internal_wildcard_b1.FnCharNumberCountsCharacters", spec := "fnCharNumberCountsCharacters", apart := false }
def FnCharNumberCountsCharactersSaid : Prop := fnCharNumberCountsCharactersRow.holds Try.pinned (OpenSpec.ofChange fnCharNumberCountsCharactersSpec)

/-- ITS FALSE NEIGHBOUR: 'it returns false'. Refute it at one input. -/
def fnCharNumberCountsCharactersWrong : ChangeSpec := { name := "fnCharNumberCountsCharacters", fn := fun _ => fun
  | [d1, d2] => { results := [.lit (.bool false)], args := [d1, d2] }
  | _ => none }
def FnCharNumberCountsCharactersWrongFalsely : Prop := fnCharNumberCountsCharactersRow.holds Try.pinned (OpenSpec.ofChange fnCharNumberCountsCharactersWrong)

/-- 'zzlaws_internal_wildcard_b1.FnCharNumberAsciiStepsAndBounds': WHATEVER THE INPUT: true; the input reads as it did. -/
def fnCharNumberAsciiStepsAndBoundsSpec : ChangeSpec := { name := "fnCharNumberAsciiStepsAndBounds", fn := fun _ => fun
  | [d1, d2] => { results := [.lit (.bool true)], args := [d1, d2] }
  | _ => none }
def fnCharNumberAsciiStepsAndBoundsRow : OpenClaim := { program := "qxb6605946a", sum := "46a765167e36888a638702370d1c11da753f5a56339b5fdadf511640138620ab", func := "example.com/orderly-policy/orderly-policy/zzlaws_internal_wildcard_b1.FnCharNumberAsciiStepsAndBounds", spec := "fnCharNumberAsciiStepsAndBounds", apart := false }
def FnCharNumberAsciiStepsAndBoundsSaid : Prop := fnCharNumberAsciiStepsAndBoundsRow.holds Try.pinned (OpenSpec.ofChange fnCharNumberAsciiStepsAndBoundsSpec)

/-- ITS FALSE NEIGHBOUR: 'it returns false'. Refute it at one input. -/
def fnCharNumberAsciiStepsAndBoundsWrong : ChangeSpec := { name := "fnCharNumberAsciiStepsAndBounds", fn := fun _ => fun
  | [d1, d2] => { results := [.lit (.bool false)], args := [d1, d2] }
  | _ => none }
def FnCharNumberAsciiStepsAndBoundsWrongFalsely : Prop := fnCharNumberAsciiStepsAndBoundsRow.holds Try.pinned (OpenSpec.ofChange fnCharNumberAsciiStepsAndBoundsWrong)

end Rows
end Go.Proofs.Qxb6605946a
