/-
  No cell of these rows narrows 'for every input' (looked for: loops, veiled, ifaces, maps, wideKeys, modest, calm, conditions, laid).
  DERIVED. THE GIVEN ROWS OF THIS SEAT. 6 by the template 'for every input the law returns true; each argument reads behind the call as it read before'; 0 by the template 'total and deterministic' (their statements: Qxb6608540aTotals.lean).
  GIVEN WITH THE SEED: the statements are not yours to turn. If you find one false, say at which input.
  Laid BY PROGRAM, IN A SANDBOX (cutbox-rows.mjs): the forced cells as the released guide's own fill.sh prints them over the translation a3e115414d38ce34… (all of the seat's roots in one cut). By AI agents, Wed Nov 11 2026. No macro, syntax, notation, axiom, sorry.
-/
import Derived.Test.Qxb6608540aChecked
import GoSem.Claim
import GoSem.ClaimJoined
import GoSem.ClaimMapViews
import Derived.JoinedTies
import Derived.KernelRfl
namespace Go.Proofs.Qxb6608540a
/- THE CELL 'sum', in the pinned program and in every row, IS THE sha256 OF THE DUMP (.gsa) THAT Qxb6608540aProg.lean LOADS. Nothing in Lean hashes anything: it is a label: what it is worth is what the hold of that sum in a sandbox is worth. -/
noncomputable def Try.pinned : Pinned := { name := "qxb6608540a", sum := "a3e115414d38ce34e30ceea9e631b3ec42990841e41012ac9274b3b2c07db92b", checked := Try.checked }
namespace Rows
def none {H : Type} : Left H := { results := [], args := [] }

/-- 'zzlaws_internal_rulebook_b1.FnStridesConcat': WHATEVER THE INPUT: true; the input reads as it did. -/
def fnStridesConcatSpec : ChangeSpec := { name := "fnStridesConcat", fn := fun _ => fun
  | [d1, d2] => { results := [.lit (.bool true)], args := [d1, d2] }
  | _ => none }
def fnStridesConcatRow : OpenClaim := { program := "qxb6608540a", sum := "a3e115414d38ce34e30ceea9e631b3ec42990841e41012ac9274b3b2c07db92b", func := "example.com/armslength/armslength/zzlaws_internal_rulebook_b1.FnStridesConcat", spec := "fnStridesConcat", apart := false }
def FnStridesConcatSaid : Prop := fnStridesConcatRow.holds Try.pinned (OpenSpec.ofChange fnStridesConcatSpec)

/-- ITS FALSE NEIGHBOUR: 'it returns false'. Refute it at one input. -/
def fnStridesConcatWrong : ChangeSpec := { name := "fnStridesConcat", fn := fun _ => fun
  | [d1, d2] => { results := [.lit (.bool false)], args := [d1, d2] }
  | _ => none }
def FnStridesConcatWrongFalsely : Prop := fnStridesConcatRow.holds Try.pinned (OpenSpec.ofChange fnStridesConcatWrong)

/-- 'zzlaws_internal_rulebook_b1.FnStridesMixedRadix': WHATEVER THE INPUT: true; the input reads as it did. -/
def fnStridesMixedRadixSpec : ChangeSpec := { name := "fnStridesMixedRadix", fn := fun _ => fun
  | [d1, d2] => { results := [.lit (.bool true)], args := [d1, d2] }
  | _ => none }
def fnStridesMixedRadixRow : OpenClaim := { program := "qxb6608540a", sum := "a3e115414d38ce34e30ceea9e631b3ec42990841e41012ac9274b3b2c07db92b", func := "example.com/armslength/armslength/zzlaws_internal_rulebook_b1.FnStridesMixedRadix", spec := "fnStridesMixedRadix", apart := false }
def FnStridesMixedRadixSaid : Prop := fnStridesMixedRadixRow.holds Try.pinned (OpenSpec.ofChange fnStridesMixedRadixSpec)

/-- ITS FALSE NEIGHBOUR: 'it returns false'. Refute it at one input. -/
def fnStridesMixedRadixWrong : ChangeSpec := { name := "fnStridesMixedRadix", fn := fun _ => fun
  | [d1, d2] => { results := [.lit (.bool false)], args := [d1, d2] }
  | _ => none }
def FnStridesMixedRadixWrongFalsely : Prop := fnStridesMixedRadixRow.holds Try.pinned (OpenSpec.ofChange fnStridesMixedRadixWrong)

/-- 'zzlaws_internal_rulebook_b1.FnAdmitsOfShareCancels': WHATEVER THE INPUT: true; the input reads as it did. -/
def fnAdmitsOfShareCancelsSpec : ChangeSpec := { name := "fnAdmitsOfShareCancels", fn := fun _ => fun
  | [d1, d2, d3, d4, d5] => { results := [.lit (.bool true)], args := [d1, d2, d3, d4, d5] }
  | _ => none }
def fnAdmitsOfShareCancelsRow : OpenClaim := { program := "qxb6608540a", sum := "a3e115414d38ce34e30ceea9e631b3ec42990841e41012ac9274b3b2c07db92b", func := "example.com/armslength/armslength/zzlaws_internal_rulebook_b1.FnAdmitsOfShareCancels", spec := "fnAdmitsOfShareCancels", unfollowed := true, recurses := true, apart := false }
def FnAdmitsOfShareCancelsSaid : Prop := fnAdmitsOfShareCancelsRow.holds Try.pinned (OpenSpec.ofChange fnAdmitsOfShareCancelsSpec)

/-- ITS FALSE NEIGHBOUR: 'it returns false'. Refute it at one input. -/
def fnAdmitsOfShareCancelsWrong : ChangeSpec := { name := "fnAdmitsOfShareCancels", fn := fun _ => fun
  | [d1, d2, d3, d4, d5] => { results := [.lit (.bool false)], args := [d1, d2, d3, d4, d5] }
  | _ => none }
def FnAdmitsOfShareCancelsWrongFalsely : Prop := fnAdmitsOfShareCancelsRow.holds Try.pinned (OpenSpec.ofChange fnAdmitsOfShareCancelsWrong)

/-- 'zzlaws_internal_rulebook_b1.FnAgainstShareModelAndMirror': WHATEVER THE INPUT: true; the input reads as it did. -/
def fnAgainstShareModelAndMirrorSpec : ChangeSpec := { name := "fnAgainstShareModelAndMirror", fn := fun _ => fun
  | [d1, d2, d3, d4, d5, d6] => { results := [.lit (.bool true)], args := [d1, d2, d3, d4, d5, d6] }
  | _ => none }
def fnAgainstShareModelAndMirrorRow : OpenClaim := { program := "qxb6608540a", sum := "a3e115414d38ce34e30ceea9e631b3ec42990841e41012ac9274b3b2c07db92b", func := "example.com/armslength/armslength/zzlaws_internal_rulebook_b1.FnAgainstShareModelAndMirror", spec := "fnAgainstShareModelAndMirror", apart := false }
def FnAgainstShareModelAndMirrorSaid : Prop := fnAgainstShareModelAndMirrorRow.holds Try.pinned (OpenSpec.ofChange fnAgainstShareModelAndMirrorSpec)

/-- ITS FALSE NEIGHBOUR: 'it returns false'. Refute it at one input. -/
def fnAgainstShareModelAndMirrorWrong : ChangeSpec := { name := "fnAgainstShareModelAndMirror", fn := fun _ => fun
  | [d1, d2, d3, d4, d5, d6] => { results := [.lit (.bool false)], args := [d1, d2, d3, d4, d5, d6] }
  | _ => none }
def FnAgainstShareModelAndMirrorWrongFalsely : Prop := fnAgainstShareModelAndMirrorRow.holds Try.pinned (OpenSpec.ofChange fnAgainstShareModelAndMirrorWrong)

/-- 'zzlaws_internal_rulebook_b1.FnAgainstShareCancels': WHATEVER THE INPUT: true; the input reads as it did. -/
def fnAgainstShareCancelsSpec : ChangeSpec := { name := "fnAgainstShareCancels", fn := fun _ => fun
  | [d1, d2, d3, d4, d5] => { results := [.lit (.bool true)], args := [d1, d2, d3, d4, d5] }
  | _ => none }
def fnAgainstShareCancelsRow : OpenClaim := { program := "qxb6608540a", sum := "a3e115414d38ce34e30ceea9e631b3ec42990841e41012ac9274b3b2c07db92b", func := "example.com/armslength/armslength/zzlaws_internal_rulebook_b1.FnAgainstShareCancels", spec := "fnAgainstShareCancels", apart := false }
def FnAgainstShareCancelsSaid : Prop := fnAgainstShareCancelsRow.holds Try.pinned (OpenSpec.ofChange fnAgainstShareCancelsSpec)

/-- ITS FALSE NEIGHBOUR: 'it returns false'. Refute it at one input. -/
def fnAgainstShareCancelsWrong : ChangeSpec := { name := "fnAgainstShareCancels", fn := fun _ => fun
  | [d1, d2, d3, d4, d5] => { results := [.lit (.bool false)], args := [d1, d2, d3, d4, d5] }
  | _ => none }
def FnAgainstShareCancelsWrongFalsely : Prop := fnAgainstShareCancelsRow.holds Try.pinned (OpenSpec.ofChange fnAgainstShareCancelsWrong)

/-- 'zzlaws_internal_rulebook_b1.FnAdmitsOfFourOpsAndRest': WHATEVER THE INPUT: true; the input reads as it did. -/
def fnAdmitsOfFourOpsAndRestSpec : ChangeSpec := { name := "fnAdmitsOfFourOpsAndRest", fn := fun _ => fun
  | [d1, d2, d3, d4, d5, d6, d7, d8] => { results := [.lit (.bool true)], args := [d1, d2, d3, d4, d5, d6, d7, d8] }
  | _ => none }
def fnAdmitsOfFourOpsAndRestRow : OpenClaim := { program := "qxb6608540a", sum := "a3e115414d38ce34e30ceea9e631b3ec42990841e41012ac9274b3b2c07db92b", func := "example.com/armslength/armslength/zzlaws_internal_rulebook_b1.FnAdmitsOfFourOpsAndRest", spec := "fnAdmitsOfFourOpsAndRest", unfollowed := true, recurses := true, apart := false }
def FnAdmitsOfFourOpsAndRestSaid : Prop := fnAdmitsOfFourOpsAndRestRow.holds Try.pinned (OpenSpec.ofChange fnAdmitsOfFourOpsAndRestSpec)

/-- ITS FALSE NEIGHBOUR: 'it returns false'. Refute it at one input. -/
def fnAdmitsOfFourOpsAndRestWrong : ChangeSpec := { name := "fnAdmitsOfFourOpsAndRest", fn := fun _ => fun
  | [d1, d2, d3, d4, d5, d6, d7, d8] => { results := [.lit (.bool false)], args := [d1, d2, d3, d4, d5, d6, d7, d8] }
  | _ => none }
def FnAdmitsOfFourOpsAndRestWrongFalsely : Prop := fnAdmitsOfFourOpsAndRestRow.holds Try.pinned (OpenSpec.ofChange fnAdmitsOfFourOpsAndRestWrong)

end Rows
end Go.Proofs.Qxb6608540a
