/-
  No cell of these rows narrows 'for every input' (looked for: loops, veiled, ifaces, maps, wideKeys, modest, calm, conditions, laid).
  DERIVED. THE GIVEN ROWS OF THIS SEAT. 4 by the template 'for every input the law returns true; each argument reads behind the call as it read before'; 0 by the template 'total and deterministic' (their statements: Qxb6003781aTotals.lean).
  GIVEN WITH THE SEED: the statements are not yours to turn. If you find one false, say at which input.
  Laid BY PROGRAM, IN A SANDBOX (cutbox-rows.mjs): the forced cells as the released guide's own fill.sh prints them over the translation 1df48fa8c9278e43… (all of the seat's roots in one cut). By AI agents, Wed Nov 11 2026. No macro, syntax, notation, axiom, sorry.
-/
import Derived.Test.Qxb6003781aChecked
import GoSem.Claim
import GoSem.ClaimJoined
import GoSem.ClaimMapViews
import Derived.JoinedTies
import Derived.KernelRfl
namespace Go.Proofs.Qxb6003781a
/- THE CELL 'sum', in the pinned program and in every row, IS THE sha256 OF THE DUMP (.gsa) THAT Qxb6003781aProg.lean LOADS. Nothing in Lean hashes anything: it is a label: what it is worth is what the hold of that sum in a sandbox is worth. -/
noncomputable def Try.pinned : Pinned := { name := "qxb6003781a", sum := "1df48fa8c9278e43cb29b0d72609f7cc7773055525b91e0e99eeeffb49d2047d", checked := Try.checked }
namespace Rows
def none {H : Type} : Left H := { results := [], args := [] }

/-- 'zzlaws_root_g1.FnLeafSlotsLeastPowerOfTwo': WHATEVER THE INPUT: true; the input reads as it did. -/
def fnLeafSlotsLeastPowerOfTwoSpec : ChangeSpec := { name := "fnLeafSlotsLeastPowerOfTwo", fn := fun _ => fun
  | [d1, d2] => { results := [.lit (.bool true)], args := [d1, d2] }
  | _ => none }
def fnLeafSlotsLeastPowerOfTwoRow : OpenClaim := { program := "qxb6003781a", sum := "1df48fa8c9278e43cb29b0d72609f7cc7773055525b91e0e99eeeffb49d2047d", func := "example.com/sanguine/sanguine/zzlaws_root_g1.FnLeafSlotsLeastPowerOfTwo", spec := "fnLeafSlotsLeastPowerOfTwo", apart := false }
def FnLeafSlotsLeastPowerOfTwoSaid : Prop := fnLeafSlotsLeastPowerOfTwoRow.holds Try.pinned (OpenSpec.ofChange fnLeafSlotsLeastPowerOfTwoSpec)

/-- ITS FALSE NEIGHBOUR: 'it returns false'. Refute it at one input. -/
def fnLeafSlotsLeastPowerOfTwoWrong : ChangeSpec := { name := "fnLeafSlotsLeastPowerOfTwo", fn := fun _ => fun
  | [d1, d2] => { results := [.lit (.bool false)], args := [d1, d2] }
  | _ => none }
def FnLeafSlotsLeastPowerOfTwoWrongFalsely : Prop := fnLeafSlotsLeastPowerOfTwoRow.holds Try.pinned (OpenSpec.ofChange fnLeafSlotsLeastPowerOfTwoWrong)

/-- 'zzlaws_root_g1.FnEndsAfterStrictTotalOrder': WHATEVER THE INPUT: true; the input reads as it did. -/
def fnEndsAfterStrictTotalOrderSpec : ChangeSpec := { name := "fnEndsAfterStrictTotalOrder", fn := fun _ => fun
  | [d1, d2, d3, d4, d5, d6, d7, d8, d9] => { results := [.lit (.bool true)], args := [d1, d2, d3, d4, d5, d6, d7, d8, d9] }
  | _ => none }
def fnEndsAfterStrictTotalOrderRow : OpenClaim := { program := "qxb6003781a", sum := "1df48fa8c9278e43cb29b0d72609f7cc7773055525b91e0e99eeeffb49d2047d", func := "example.com/sanguine/sanguine/zzlaws_root_g1.FnEndsAfterStrictTotalOrder", spec := "fnEndsAfterStrictTotalOrder", apart := false }
def FnEndsAfterStrictTotalOrderSaid : Prop := fnEndsAfterStrictTotalOrderRow.holds Try.pinned (OpenSpec.ofChange fnEndsAfterStrictTotalOrderSpec)

/-- ITS FALSE NEIGHBOUR: 'it returns false'. Refute it at one input. -/
def fnEndsAfterStrictTotalOrderWrong : ChangeSpec := { name := "fnEndsAfterStrictTotalOrder", fn := fun _ => fun
  | [d1, d2, d3, d4, d5, d6, d7, d8, d9] => { results := [.lit (.bool false)], args := [d1, d2, d3, d4, d5, d6, d7, d8, d9] }
  | _ => none }
def FnEndsAfterStrictTotalOrderWrongFalsely : Prop := fnEndsAfterStrictTotalOrderRow.holds Try.pinned (OpenSpec.ofChange fnEndsAfterStrictTotalOrderWrong)

/-- 'zzlaws_root_g1.FnHoldsAgreesWithEndsAfter': WHATEVER THE INPUT: true; the input reads as it did. -/
def fnHoldsAgreesWithEndsAfterSpec : ChangeSpec := { name := "fnHoldsAgreesWithEndsAfter", fn := fun _ => fun
  | [d1, d2, d3, d4, d5, d6, d7, d8] => { results := [.lit (.bool true)], args := [d1, d2, d3, d4, d5, d6, d7, d8] }
  | _ => none }
def fnHoldsAgreesWithEndsAfterRow : OpenClaim := { program := "qxb6003781a", sum := "1df48fa8c9278e43cb29b0d72609f7cc7773055525b91e0e99eeeffb49d2047d", func := "example.com/sanguine/sanguine/zzlaws_root_g1.FnHoldsAgreesWithEndsAfter", spec := "fnHoldsAgreesWithEndsAfter", apart := false }
def FnHoldsAgreesWithEndsAfterSaid : Prop := fnHoldsAgreesWithEndsAfterRow.holds Try.pinned (OpenSpec.ofChange fnHoldsAgreesWithEndsAfterSpec)

/-- ITS FALSE NEIGHBOUR: 'it returns false'. Refute it at one input. -/
def fnHoldsAgreesWithEndsAfterWrong : ChangeSpec := { name := "fnHoldsAgreesWithEndsAfter", fn := fun _ => fun
  | [d1, d2, d3, d4, d5, d6, d7, d8] => { results := [.lit (.bool false)], args := [d1, d2, d3, d4, d5, d6, d7, d8] }
  | _ => none }
def FnHoldsAgreesWithEndsAfterWrongFalsely : Prop := fnHoldsAgreesWithEndsAfterRow.holds Try.pinned (OpenSpec.ofChange fnHoldsAgreesWithEndsAfterWrong)

/-- 'zzlaws_root_g1.FnReadToIsTheReadPart': WHATEVER THE INPUT: true; the input reads as it did. -/
def fnReadToIsTheReadPartSpec : ChangeSpec := { name := "fnReadToIsTheReadPart", fn := fun _ => fun
  | [d1, d2, d3, d4, d5, d6, d7] => { results := [.lit (.bool true)], args := [d1, d2, d3, d4, d5, d6, d7] }
  | _ => none }
def fnReadToIsTheReadPartRow : OpenClaim := { program := "qxb6003781a", sum := "1df48fa8c9278e43cb29b0d72609f7cc7773055525b91e0e99eeeffb49d2047d", func := "example.com/sanguine/sanguine/zzlaws_root_g1.FnReadToIsTheReadPart", spec := "fnReadToIsTheReadPart", apart := false }
def FnReadToIsTheReadPartSaid : Prop := fnReadToIsTheReadPartRow.holds Try.pinned (OpenSpec.ofChange fnReadToIsTheReadPartSpec)

/-- ITS FALSE NEIGHBOUR: 'it returns false'. Refute it at one input. -/
def fnReadToIsTheReadPartWrong : ChangeSpec := { name := "fnReadToIsTheReadPart", fn := fun _ => fun
  | [d1, d2, d3, d4, d5, d6, d7] => { results := [.lit (.bool false)], args := [d1, d2, d3, d4, d5, d6, d7] }
  | _ => none }
def FnReadToIsTheReadPartWrongFalsely : Prop := fnReadToIsTheReadPartRow.holds Try.pinned (OpenSpec.ofChange fnReadToIsTheReadPartWrong)

end Rows
end Go.Proofs.Qxb6003781a
