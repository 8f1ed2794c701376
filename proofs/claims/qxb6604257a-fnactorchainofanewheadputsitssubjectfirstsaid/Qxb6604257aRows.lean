/-
  No cell of these rows narrows 'for every input' (looked for: loops, veiled, ifaces, maps, wideKeys, modest, calm, conditions, laid).
  DERIVED. THE GIVEN ROWS OF THIS SEAT. 5 by the template 'for every input the law returns true; each argument reads behind the call as it read before'; 0 by the template 'total and deterministic' (their statements: Qxb6604257aTotals.lean).
  GIVEN WITH THE SEED: the statements are not yours to turn. If you find one false, say at which input.
  Laid BY PROGRAM, IN A SANDBOX (cutbox-rows.mjs): the forced cells as the released guide's own fill.sh prints them over the translation 0a2163808bd09802… (all of the seat's roots in one cut). By AI agents, Wed Nov 11 2026. No macro, syntax, notation, axiom, sorry.
-/
import Derived.Test.Qxb6604257aChecked
import GoSem.Claim
import GoSem.ClaimJoined
import GoSem.ClaimMapViews
import Derived.JoinedTies
import Derived.KernelRfl
namespace Go.Proofs.Qxb6604257a
/- THE CELL 'sum', in the pinned program and in every row, IS THE sha256 OF THE DUMP (.gsa) THAT Qxb6604257aProg.lean LOADS. Nothing in Lean hashes anything: it is a label: what it is worth is what the hold of that sum in a sandbox is worth. -/
noncomputable def Try.pinned : Pinned := { name := "qxb6604257a", sum := "0a2163808bd098025e2ff4e8f8b62fc058490ed3d6ce9201b1598c67d255fb27", checked := Try.checked }
namespace Rows
def none {H : Type} : Left H := { results := [], args := [] }

/-- 'zzlaws_verify_b1.FnStringEndIsFirstQuoteAfterEvenBackslashes': WHATEVER THE INPUT: true; the input reads as it did. -/
def fnStringEndIsFirstQuoteAfterEvenBackslashesSpec : ChangeSpec := { name := "fnStringEndIsFirstQuoteAfterEvenBackslashes", fn := fun _ => fun
  | [d1, d2] => { results := [.lit (.bool true)], args := [d1, d2] }
  | _ => none }
def fnStringEndIsFirstQuoteAfterEvenBackslashesRow : OpenClaim := { program := "qxb6604257a", sum := "0a2163808bd098025e2ff4e8f8b62fc058490ed3d6ce9201b1598c67d255fb27", func := "example.com/strict-sts/strict-sts/zzlaws_verify_b1.FnStringEndIsFirstQuoteAfterEvenBackslashes", spec := "fnStringEndIsFirstQuoteAfterEvenBackslashes", apart := false }
def FnStringEndIsFirstQuoteAfterEvenBackslashesSaid : Prop := fnStringEndIsFirstQuoteAfterEvenBackslashesRow.holds Try.pinned (OpenSpec.ofChange fnStringEndIsFirstQuoteAfterEvenBackslashesSpec)

/-- ITS FALSE NEIGHBOUR: 'it returns false'. Refute it at one input. -/
def fnStringEndIsFirstQuoteAfterEvenBackslashesWrong : ChangeSpec := { name := "fnStringEndIsFirstQuoteAfterEvenBackslashes", fn := fun _ => fun
  | [d1, d2] => { results := [.lit (.bool false)], args := [d1, d2] }
  | _ => none }
def FnStringEndIsFirstQuoteAfterEvenBackslashesWrongFalsely : Prop := fnStringEndIsFirstQuoteAfterEvenBackslashesRow.holds Try.pinned (OpenSpec.ofChange fnStringEndIsFirstQuoteAfterEvenBackslashesWrong)

/-- 'zzlaws_verify_b1.FnStringEndLandsJustPastAQuoteOrAtTheEnd': WHATEVER THE INPUT: true; the input reads as it did. -/
def fnStringEndLandsJustPastAQuoteOrAtTheEndSpec : ChangeSpec := { name := "fnStringEndLandsJustPastAQuoteOrAtTheEnd", fn := fun _ => fun
  | [d1, d2] => { results := [.lit (.bool true)], args := [d1, d2] }
  | _ => none }
def fnStringEndLandsJustPastAQuoteOrAtTheEndRow : OpenClaim := { program := "qxb6604257a", sum := "0a2163808bd098025e2ff4e8f8b62fc058490ed3d6ce9201b1598c67d255fb27", func := "example.com/strict-sts/strict-sts/zzlaws_verify_b1.FnStringEndLandsJustPastAQuoteOrAtTheEnd", spec := "fnStringEndLandsJustPastAQuoteOrAtTheEnd", apart := false }
def FnStringEndLandsJustPastAQuoteOrAtTheEndSaid : Prop := fnStringEndLandsJustPastAQuoteOrAtTheEndRow.holds Try.pinned (OpenSpec.ofChange fnStringEndLandsJustPastAQuoteOrAtTheEndSpec)

/-- ITS FALSE NEIGHBOUR: 'it returns false'. Refute it at one input. -/
def fnStringEndLandsJustPastAQuoteOrAtTheEndWrong : ChangeSpec := { name := "fnStringEndLandsJustPastAQuoteOrAtTheEnd", fn := fun _ => fun
  | [d1, d2] => { results := [.lit (.bool false)], args := [d1, d2] }
  | _ => none }
def FnStringEndLandsJustPastAQuoteOrAtTheEndWrongFalsely : Prop := fnStringEndLandsJustPastAQuoteOrAtTheEndRow.holds Try.pinned (OpenSpec.ofChange fnStringEndLandsJustPastAQuoteOrAtTheEndWrong)

/-- 'zzlaws_verify_b1.FnStringEndFindsTheEndOfAnEncodedString': WHATEVER THE INPUT: true; the input reads as it did. -/
def fnStringEndFindsTheEndOfAnEncodedStringSpec : ChangeSpec := { name := "fnStringEndFindsTheEndOfAnEncodedString", fn := fun _ => fun
  | [d1, d2, d3] => { results := [.lit (.bool true)], args := [d1, d2, d3] }
  | _ => none }
def fnStringEndFindsTheEndOfAnEncodedStringRow : OpenClaim := { program := "qxb6604257a", sum := "0a2163808bd098025e2ff4e8f8b62fc058490ed3d6ce9201b1598c67d255fb27", func := "example.com/strict-sts/strict-sts/zzlaws_verify_b1.FnStringEndFindsTheEndOfAnEncodedString", spec := "fnStringEndFindsTheEndOfAnEncodedString", apart := false }
def FnStringEndFindsTheEndOfAnEncodedStringSaid : Prop := fnStringEndFindsTheEndOfAnEncodedStringRow.holds Try.pinned (OpenSpec.ofChange fnStringEndFindsTheEndOfAnEncodedStringSpec)

/-- ITS FALSE NEIGHBOUR: 'it returns false'. Refute it at one input. -/
def fnStringEndFindsTheEndOfAnEncodedStringWrong : ChangeSpec := { name := "fnStringEndFindsTheEndOfAnEncodedString", fn := fun _ => fun
  | [d1, d2, d3] => { results := [.lit (.bool false)], args := [d1, d2, d3] }
  | _ => none }
def FnStringEndFindsTheEndOfAnEncodedStringWrongFalsely : Prop := fnStringEndFindsTheEndOfAnEncodedStringRow.holds Try.pinned (OpenSpec.ofChange fnStringEndFindsTheEndOfAnEncodedStringWrong)

/-- 'zzlaws_verify_b1.FnActorChainGivesBackTheSubjectsInOrder': WHATEVER THE INPUT: true; the input reads as it did. -/
def fnActorChainGivesBackTheSubjectsInOrderSpec : ChangeSpec := { name := "fnActorChainGivesBackTheSubjectsInOrder", fn := fun _ => fun
  | [d1, d2] => { results := [.lit (.bool true)], args := [d1, d2] }
  | _ => none }
def fnActorChainGivesBackTheSubjectsInOrderRow : OpenClaim := { program := "qxb6604257a", sum := "0a2163808bd098025e2ff4e8f8b62fc058490ed3d6ce9201b1598c67d255fb27", func := "example.com/strict-sts/strict-sts/zzlaws_verify_b1.FnActorChainGivesBackTheSubjectsInOrder", spec := "fnActorChainGivesBackTheSubjectsInOrder", apart := false }
def FnActorChainGivesBackTheSubjectsInOrderSaid : Prop := fnActorChainGivesBackTheSubjectsInOrderRow.holds Try.pinned (OpenSpec.ofChange fnActorChainGivesBackTheSubjectsInOrderSpec)

/-- ITS FALSE NEIGHBOUR: 'it returns false'. Refute it at one input. -/
def fnActorChainGivesBackTheSubjectsInOrderWrong : ChangeSpec := { name := "fnActorChainGivesBackTheSubjectsInOrder", fn := fun _ => fun
  | [d1, d2] => { results := [.lit (.bool false)], args := [d1, d2] }
  | _ => none }
def FnActorChainGivesBackTheSubjectsInOrderWrongFalsely : Prop := fnActorChainGivesBackTheSubjectsInOrderRow.holds Try.pinned (OpenSpec.ofChange fnActorChainGivesBackTheSubjectsInOrderWrong)

/-- 'zzlaws_verify_b1.FnActorChainOfANewHeadPutsItsSubjectFirst': WHATEVER THE INPUT: true; the input reads as it did. -/
def fnActorChainOfANewHeadPutsItsSubjectFirstSpec : ChangeSpec := { name := "fnActorChainOfANewHeadPutsItsSubjectFirst", fn := fun _ => fun
  | [d1, d2, d3] => { results := [.lit (.bool true)], args := [d1, d2, d3] }
  | _ => none }
def fnActorChainOfANewHeadPutsItsSubjectFirstRow : OpenClaim := { program := "qxb6604257a", sum := "0a2163808bd098025e2ff4e8f8b62fc058490ed3d6ce9201b1598c67d255fb27", func := "example.com/strict-sts/strict-sts/zzlaws_verify_b1.FnActorChainOfANewHeadPutsItsSubjectFirst", spec := "fnActorChainOfANewHeadPutsItsSubjectFirst", apart := false }
def FnActorChainOfANewHeadPutsItsSubjectFirstSaid : Prop := fnActorChainOfANewHeadPutsItsSubjectFirstRow.holds Try.pinned (OpenSpec.ofChange fnActorChainOfANewHeadPutsItsSubjectFirstSpec)

/-- ITS FALSE NEIGHBOUR: 'it returns false'. Refute it at one input. -/
def fnActorChainOfANewHeadPutsItsSubjectFirstWrong : ChangeSpec := { name := "fnActorChainOfANewHeadPutsItsSubjectFirst", fn := fun _ => fun
  | [d1, d2, d3] => { results := [.lit (.bool false)], args := [d1, d2, d3] }
  | _ => none }
def FnActorChainOfANewHeadPutsItsSubjectFirstWrongFalsely : Prop := fnActorChainOfANewHeadPutsItsSubjectFirstRow.holds Try.pinned (OpenSpec.ofChange fnActorChainOfANewHeadPutsItsSubjectFirstWrong)

end Rows
end Go.Proofs.Qxb6604257a
