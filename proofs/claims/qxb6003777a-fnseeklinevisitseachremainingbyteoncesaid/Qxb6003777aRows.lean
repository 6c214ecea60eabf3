/-
  No cell of these rows narrows 'for every input' (looked for: loops, veiled, ifaces, maps, wideKeys, modest, calm, conditions, laid).
  DERIVED. THE GIVEN ROWS OF THIS SEAT. 3 by the template 'for every input the law returns true; each argument reads behind the call as it read before'; 0 by the template 'total and deterministic' (their statements: Qxb6003777aTotals.lean).
  GIVEN WITH THE SEED: the statements are not yours to turn. If you find one false, say at which input.
  Laid BY PROGRAM, IN A SANDBOX (cutbox-rows.mjs): the forced cells as the released guide's own fill.sh prints them over the translation 14cf2840c9a76979… (all of the seat's roots in one cut). By AI agents, Wed Nov 11 2026. No macro, syntax, notation, axiom, sorry.
-/
import Derived.Test.Qxb6003777aChecked
import GoSem.Claim
import GoSem.ClaimJoined
import GoSem.ClaimMapViews
import Derived.JoinedTies
import Derived.KernelRfl
namespace Go.Proofs.Qxb6003777a
/- THE CELL 'sum', in the pinned program and in every row, IS THE sha256 OF THE DUMP (.gsa) THAT Qxb6003777aProg.lean LOADS. Nothing in Lean hashes anything: it is a label: what it is worth is what the hold of that sum in a sandbox is worth. -/
noncomputable def Try.pinned : Pinned := { name := "qxb6003777a", sum := "14cf2840c9a76979739435c9c3df7e04ff6f7fac64772e6a70295a90e3227149", checked := Try.checked }
namespace Rows
def none {H : Type} : Left H := { results := [], args := [] }

/-- 'zzlaws_internal_tangle_g2.FnSeekRefVisitsEachRemainingRefOnce': WHATEVER THE INPUT: true; the input reads as it did. -/
def fnSeekRefVisitsEachRemainingRefOnceSpec : ChangeSpec := { name := "fnSeekRefVisitsEachRemainingRefOnce", fn := fun _ => fun
  | [d1, d2, d3] => { results := [.lit (.bool true)], args := [d1, d2, d3] }
  | _ => none }
def fnSeekRefVisitsEachRemainingRefOnceRow : OpenClaim := { program := "qxb6003777a", sum := "14cf2840c9a76979739435c9c3df7e04ff6f7fac64772e6a70295a90e3227149", func := "example.com/exact-tangle/exact-tangle/zzlaws_internal_tangle_g2.FnSeekRefVisitsEachRemainingRefOnce", spec := "fnSeekRefVisitsEachRemainingRefOnce", apart := false }
def FnSeekRefVisitsEachRemainingRefOnceSaid : Prop := fnSeekRefVisitsEachRemainingRefOnceRow.holds Try.pinned (OpenSpec.ofChange fnSeekRefVisitsEachRemainingRefOnceSpec)

/-- ITS FALSE NEIGHBOUR: 'it returns false'. Refute it at one input. -/
def fnSeekRefVisitsEachRemainingRefOnceWrong : ChangeSpec := { name := "fnSeekRefVisitsEachRemainingRefOnce", fn := fun _ => fun
  | [d1, d2, d3] => { results := [.lit (.bool false)], args := [d1, d2, d3] }
  | _ => none }
def FnSeekRefVisitsEachRemainingRefOnceWrongFalsely : Prop := fnSeekRefVisitsEachRemainingRefOnceRow.holds Try.pinned (OpenSpec.ofChange fnSeekRefVisitsEachRemainingRefOnceWrong)

/-- 'zzlaws_internal_tangle_g2.FnSeekLineVisitsEachRemainingByteOnce': WHATEVER THE INPUT: true; the input reads as it did. -/
def fnSeekLineVisitsEachRemainingByteOnceSpec : ChangeSpec := { name := "fnSeekLineVisitsEachRemainingByteOnce", fn := fun _ => fun
  | [d1, d2, d3] => { results := [.lit (.bool true)], args := [d1, d2, d3] }
  | _ => none }
def fnSeekLineVisitsEachRemainingByteOnceRow : OpenClaim := { program := "qxb6003777a", sum := "14cf2840c9a76979739435c9c3df7e04ff6f7fac64772e6a70295a90e3227149", func := "example.com/exact-tangle/exact-tangle/zzlaws_internal_tangle_g2.FnSeekLineVisitsEachRemainingByteOnce", spec := "fnSeekLineVisitsEachRemainingByteOnce", apart := false }
def FnSeekLineVisitsEachRemainingByteOnceSaid : Prop := fnSeekLineVisitsEachRemainingByteOnceRow.holds Try.pinned (OpenSpec.ofChange fnSeekLineVisitsEachRemainingByteOnceSpec)

/-- ITS FALSE NEIGHBOUR: 'it returns false'. Refute it at one input. -/
def fnSeekLineVisitsEachRemainingByteOnceWrong : ChangeSpec := { name := "fnSeekLineVisitsEachRemainingByteOnce", fn := fun _ => fun
  | [d1, d2, d3] => { results := [.lit (.bool false)], args := [d1, d2, d3] }
  | _ => none }
def FnSeekLineVisitsEachRemainingByteOnceWrongFalsely : Prop := fnSeekLineVisitsEachRemainingByteOnceRow.holds Try.pinned (OpenSpec.ofChange fnSeekLineVisitsEachRemainingByteOnceWrong)

/-- 'zzlaws_internal_tangle_g2.FnMeetKeepsFirstDeepest': WHATEVER THE INPUT: true; the input reads as it did. -/
def fnMeetKeepsFirstDeepestSpec : ChangeSpec := { name := "fnMeetKeepsFirstDeepest", fn := fun _ => fun
  | [d1, d2] => { results := [.lit (.bool true)], args := [d1, d2] }
  | _ => none }
def fnMeetKeepsFirstDeepestRow : OpenClaim := { program := "qxb6003777a", sum := "14cf2840c9a76979739435c9c3df7e04ff6f7fac64772e6a70295a90e3227149", func := "example.com/exact-tangle/exact-tangle/zzlaws_internal_tangle_g2.FnMeetKeepsFirstDeepest", spec := "fnMeetKeepsFirstDeepest", apart := false }
def FnMeetKeepsFirstDeepestSaid : Prop := fnMeetKeepsFirstDeepestRow.holds Try.pinned (OpenSpec.ofChange fnMeetKeepsFirstDeepestSpec)

/-- ITS FALSE NEIGHBOUR: 'it returns false'. Refute it at one input. -/
def fnMeetKeepsFirstDeepestWrong : ChangeSpec := { name := "fnMeetKeepsFirstDeepest", fn := fun _ => fun
  | [d1, d2] => { results := [.lit (.bool false)], args := [d1, d2] }
  | _ => none }
def FnMeetKeepsFirstDeepestWrongFalsely : Prop := fnMeetKeepsFirstDeepestRow.holds Try.pinned (OpenSpec.ofChange fnMeetKeepsFirstDeepestWrong)

end Rows
end Go.Proofs.Qxb6003777a
