/-
  No cell of these rows narrows 'for every input' (looked for: loops, veiled, ifaces, maps, wideKeys, modest, calm, conditions, laid).
  DERIVED. THE GIVEN ROWS OF THIS SEAT. 3 by the template 'for every input the law returns true; each argument reads behind the call as it read before'; 0 by the template 'total and deterministic' (their statements: Qxb6604316aTotals.lean).
  GIVEN WITH THE SEED: the statements are not yours to turn. If you find one false, say at which input.
  Laid BY PROGRAM, IN A SANDBOX (cutbox-rows.mjs): the forced cells as the released guide's own fill.sh prints them over the translation 863425481ce5b27d… (all of the seat's roots in one cut). By AI agents, Wed Nov 11 2026. No macro, syntax, notation, axiom, sorry.
-/
import Derived.Test.Qxb6604316aChecked
import GoSem.Claim
import GoSem.ClaimJoined
import GoSem.ClaimMapViews
import Derived.JoinedTies
import Derived.KernelRfl
namespace Go.Proofs.Qxb6604316a
/- THE CELL 'sum', in the pinned program and in every row, IS THE sha256 OF THE DUMP (.gsa) THAT Qxb6604316aProg.lean LOADS. Nothing in Lean hashes anything: it is a label: what it is worth is what the hold of that sum in a sandbox is worth. -/
noncomputable def Try.pinned : Pinned := { name := "qxb6604316a", sum := "863425481ce5b27dff9dd7722711140367f4ee6caa56ba55e1ca43fb9fb9b847", checked := Try.checked }
namespace Rows
def none {H : Type} : Left H := { results := [], args := [] }

/-- 'zzlaws_pkg_sat_b1.FnAddrIndexOctet': WHATEVER THE INPUT: true; the input reads as it did. -/
def fnAddrIndexOctetSpec : ChangeSpec := { name := "fnAddrIndexOctet", fn := fun _ => fun
  | [d1, d2, d3, d4] => { results := [.lit (.bool true)], args := [d1, d2, d3, d4] }
  | _ => none }
def fnAddrIndexOctetRow : OpenClaim := { program := "qxb6604316a", sum := "863425481ce5b27dff9dd7722711140367f4ee6caa56ba55e1ca43fb9fb9b847", func := "example.com/starhelm/starhelm/zzlaws_pkg_sat_b1.FnAddrIndexOctet", spec := "fnAddrIndexOctet", apart := false }
def FnAddrIndexOctetSaid : Prop := fnAddrIndexOctetRow.holds Try.pinned (OpenSpec.ofChange fnAddrIndexOctetSpec)

/-- ITS FALSE NEIGHBOUR: 'it returns false'. Refute it at one input. -/
def fnAddrIndexOctetWrong : ChangeSpec := { name := "fnAddrIndexOctet", fn := fun _ => fun
  | [d1, d2, d3, d4] => { results := [.lit (.bool false)], args := [d1, d2, d3, d4] }
  | _ => none }
def FnAddrIndexOctetWrongFalsely : Prop := fnAddrIndexOctetRow.holds Try.pinned (OpenSpec.ofChange fnAddrIndexOctetWrong)

/-- 'zzlaws_pkg_sat_b1.FnAddrWithIndexOctet': WHATEVER THE INPUT: true; the input reads as it did. -/
def fnAddrWithIndexOctetSpec : ChangeSpec := { name := "fnAddrWithIndexOctet", fn := fun _ => fun
  | [d1, d2, d3, d4, d5] => { results := [.lit (.bool true)], args := [d1, d2, d3, d4, d5] }
  | _ => none }
def fnAddrWithIndexOctetRow : OpenClaim := { program := "qxb6604316a", sum := "863425481ce5b27dff9dd7722711140367f4ee6caa56ba55e1ca43fb9fb9b847", func := "example.com/starhelm/starhelm/zzlaws_pkg_sat_b1.FnAddrWithIndexOctet", spec := "fnAddrWithIndexOctet", apart := false }
def FnAddrWithIndexOctetSaid : Prop := fnAddrWithIndexOctetRow.holds Try.pinned (OpenSpec.ofChange fnAddrWithIndexOctetSpec)

/-- ITS FALSE NEIGHBOUR: 'it returns false'. Refute it at one input. -/
def fnAddrWithIndexOctetWrong : ChangeSpec := { name := "fnAddrWithIndexOctet", fn := fun _ => fun
  | [d1, d2, d3, d4, d5] => { results := [.lit (.bool false)], args := [d1, d2, d3, d4, d5] }
  | _ => none }
def FnAddrWithIndexOctetWrongFalsely : Prop := fnAddrWithIndexOctetRow.holds Try.pinned (OpenSpec.ofChange fnAddrWithIndexOctetWrong)

/-- 'zzlaws_pkg_sat_b1.FnAddrIndexWithIndexLens': WHATEVER THE INPUT: true; the input reads as it did. -/
def fnAddrIndexWithIndexLensSpec : ChangeSpec := { name := "fnAddrIndexWithIndexLens", fn := fun _ => fun
  | [d1, d2, d3, d4, d5, d6, d7] => { results := [.lit (.bool true)], args := [d1, d2, d3, d4, d5, d6, d7] }
  | _ => none }
def fnAddrIndexWithIndexLensRow : OpenClaim := { program := "qxb6604316a", sum := "863425481ce5b27dff9dd7722711140367f4ee6caa56ba55e1ca43fb9fb9b847", func := "example.com/starhelm/starhelm/zzlaws_pkg_sat_b1.FnAddrIndexWithIndexLens", spec := "fnAddrIndexWithIndexLens", apart := false }
def FnAddrIndexWithIndexLensSaid : Prop := fnAddrIndexWithIndexLensRow.holds Try.pinned (OpenSpec.ofChange fnAddrIndexWithIndexLensSpec)

/-- ITS FALSE NEIGHBOUR: 'it returns false'. Refute it at one input. -/
def fnAddrIndexWithIndexLensWrong : ChangeSpec := { name := "fnAddrIndexWithIndexLens", fn := fun _ => fun
  | [d1, d2, d3, d4, d5, d6, d7] => { results := [.lit (.bool false)], args := [d1, d2, d3, d4, d5, d6, d7] }
  | _ => none }
def FnAddrIndexWithIndexLensWrongFalsely : Prop := fnAddrIndexWithIndexLensRow.holds Try.pinned (OpenSpec.ofChange fnAddrIndexWithIndexLensWrong)

end Rows
end Go.Proofs.Qxb6604316a
