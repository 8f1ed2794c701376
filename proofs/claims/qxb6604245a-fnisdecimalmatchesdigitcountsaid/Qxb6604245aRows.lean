/-
  No cell of these rows narrows 'for every input' (looked for: loops, veiled, ifaces, maps, wideKeys, modest, calm, conditions, laid).
  DERIVED. THE GIVEN ROWS OF THIS SEAT. 1 by the template 'for every input the law returns true; each argument reads behind the call as it read before'; 0 by the template 'total and deterministic' (their statements: Qxb6604245aTotals.lean).
  GIVEN WITH THE SEED: the statements are not yours to turn. If you find one false, say at which input.
  Laid BY PROGRAM, IN A SANDBOX (cutbox-rows.mjs): the forced cells as the released guide's own fill.sh prints them over the translation 4366311b6758e189… (all of the seat's roots in one cut). By AI agents, Wed Nov 11 2026. No macro, syntax, notation, axiom, sorry.
-/
import Derived.Test.Qxb6604245aChecked
import GoSem.Claim
import GoSem.ClaimJoined
import GoSem.ClaimMapViews
import Derived.JoinedTies
import Derived.KernelRfl
namespace Go.Proofs.Qxb6604245a
/- THE CELL 'sum', in the pinned program and in every row, IS THE sha256 OF THE DUMP (.gsa) THAT Qxb6604245aProg.lean LOADS. Nothing in Lean hashes anything: it is a label: what it is worth is what the hold of that sum in a sandbox is worth. -/
noncomputable def Try.pinned : Pinned := { name := "qxb6604245a", sum := "4366311b6758e189c97f1fb21db3788e7b764c19faa7359317b1f2b632803def", checked := Try.checked }
namespace Rows
def none {H : Type} : Left H := { results := [], args := [] }

/-- 'zzlaws_root_b1.FnIsDecimalMatchesDigitCount': WHATEVER THE INPUT: true; the input reads as it did. -/
def fnIsDecimalMatchesDigitCountSpec : ChangeSpec := { name := "fnIsDecimalMatchesDigitCount", fn := fun _ => fun
  | [d] => { results := [.lit (.bool true)], args := [d] }
  | _ => none }
def fnIsDecimalMatchesDigitCountRow : OpenClaim := { program := "qxb6604245a", sum := "4366311b6758e189c97f1fb21db3788e7b764c19faa7359317b1f2b632803def", func := "example.com/takt/takt/zzlaws_root_b1.FnIsDecimalMatchesDigitCount", spec := "fnIsDecimalMatchesDigitCount", apart := false }
def FnIsDecimalMatchesDigitCountSaid : Prop := fnIsDecimalMatchesDigitCountRow.holds Try.pinned (OpenSpec.ofChange fnIsDecimalMatchesDigitCountSpec)

/-- ITS FALSE NEIGHBOUR: 'it returns false'. Refute it at one input. -/
def fnIsDecimalMatchesDigitCountWrong : ChangeSpec := { name := "fnIsDecimalMatchesDigitCount", fn := fun _ => fun
  | [d] => { results := [.lit (.bool false)], args := [d] }
  | _ => none }
def FnIsDecimalMatchesDigitCountWrongFalsely : Prop := fnIsDecimalMatchesDigitCountRow.holds Try.pinned (OpenSpec.ofChange fnIsDecimalMatchesDigitCountWrong)

end Rows
end Go.Proofs.Qxb6604245a
