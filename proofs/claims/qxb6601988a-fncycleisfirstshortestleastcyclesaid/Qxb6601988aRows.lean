/-
  No cell of these rows narrows 'for every input' (looked for: loops, veiled, ifaces, maps, wideKeys, modest, calm, conditions, laid).
  DERIVED. THE GIVEN ROWS OF THIS SEAT. 4 by the template 'for every input the law returns true; each argument reads behind the call as it read before'; 0 by the template 'total and deterministic' (their statements: Qxb6601988aTotals.lean).
  GIVEN WITH THE SEED: the statements are not yours to turn. If you find one false, say at which input.
  Laid BY PROGRAM, IN A SANDBOX (cutbox-rows.mjs): the forced cells as the released guide's own fill.sh prints them over the translation cf2e4b1479139311… (all of the seat's roots in one cut). By AI agents, Wed Nov 11 2026. No macro, syntax, notation, axiom, sorry.
-/
import Derived.Test.Qxb6601988aChecked
import GoSem.Claim
import GoSem.ClaimJoined
import GoSem.ClaimMapViews
import Derived.JoinedTies
import Derived.KernelRfl
namespace Go.Proofs.Qxb6601988a
/- THE CELL 'sum', in the pinned program and in every row, IS THE sha256 OF THE DUMP (.gsa) THAT Qxb6601988aProg.lean LOADS. Nothing in Lean hashes anything: it is a label: what it is worth is what the hold of that sum in a sandbox is worth. -/
noncomputable def Try.pinned : Pinned := { name := "qxb6601988a", sum := "cf2e4b14791393119aeeef5234bcea79887aeea73eae9cf9fa8044d130853120", checked := Try.checked }
namespace Rows
def none {H : Type} : Left H := { results := [], args := [] }

/-- 'zzlaws_internal_herbrand_b1.FnPathBackIsLeastShortestCycle': WHATEVER THE INPUT: true; the input reads as it did. -/
def fnPathBackIsLeastShortestCycleSpec : ChangeSpec := { name := "fnPathBackIsLeastShortestCycle", fn := fun _ => fun
  | [d1, d2, d3] => { results := [.lit (.bool true)], args := [d1, d2, d3] }
  | _ => none }
def fnPathBackIsLeastShortestCycleRow : OpenClaim := { program := "qxb6601988a", sum := "cf2e4b14791393119aeeef5234bcea79887aeea73eae9cf9fa8044d130853120", func := "example.com/ballotproof/ballotproof/zzlaws_internal_herbrand_b1.FnPathBackIsLeastShortestCycle", spec := "fnPathBackIsLeastShortestCycle", plainKeys := false, apart := false }
def FnPathBackIsLeastShortestCycleSaid : Prop := fnPathBackIsLeastShortestCycleRow.holds Try.pinned (OpenSpec.ofChange fnPathBackIsLeastShortestCycleSpec)

/-- ITS FALSE NEIGHBOUR: 'it returns false'. Refute it at one input. -/
def fnPathBackIsLeastShortestCycleWrong : ChangeSpec := { name := "fnPathBackIsLeastShortestCycle", fn := fun _ => fun
  | [d1, d2, d3] => { results := [.lit (.bool false)], args := [d1, d2, d3] }
  | _ => none }
def FnPathBackIsLeastShortestCycleWrongFalsely : Prop := fnPathBackIsLeastShortestCycleRow.holds Try.pinned (OpenSpec.ofChange fnPathBackIsLeastShortestCycleWrong)

/-- 'zzlaws_internal_herbrand_b1.FnPathBackIsSimpleCycleNoneOnItLonger': WHATEVER THE INPUT: true; the input reads as it did. -/
def fnPathBackIsSimpleCycleNoneOnItLongerSpec : ChangeSpec := { name := "fnPathBackIsSimpleCycleNoneOnItLonger", fn := fun _ => fun
  | [d1, d2, d3] => { results := [.lit (.bool true)], args := [d1, d2, d3] }
  | _ => none }
def fnPathBackIsSimpleCycleNoneOnItLongerRow : OpenClaim := { program := "qxb6601988a", sum := "cf2e4b14791393119aeeef5234bcea79887aeea73eae9cf9fa8044d130853120", func := "example.com/ballotproof/ballotproof/zzlaws_internal_herbrand_b1.FnPathBackIsSimpleCycleNoneOnItLonger", spec := "fnPathBackIsSimpleCycleNoneOnItLonger", plainKeys := false, apart := false }
def FnPathBackIsSimpleCycleNoneOnItLongerSaid : Prop := fnPathBackIsSimpleCycleNoneOnItLongerRow.holds Try.pinned (OpenSpec.ofChange fnPathBackIsSimpleCycleNoneOnItLongerSpec)

/-- ITS FALSE NEIGHBOUR: 'it returns false'. Refute it at one input. -/
def fnPathBackIsSimpleCycleNoneOnItLongerWrong : ChangeSpec := { name := "fnPathBackIsSimpleCycleNoneOnItLonger", fn := fun _ => fun
  | [d1, d2, d3] => { results := [.lit (.bool false)], args := [d1, d2, d3] }
  | _ => none }
def FnPathBackIsSimpleCycleNoneOnItLongerWrongFalsely : Prop := fnPathBackIsSimpleCycleNoneOnItLongerRow.holds Try.pinned (OpenSpec.ofChange fnPathBackIsSimpleCycleNoneOnItLongerWrong)

/-- 'zzlaws_internal_herbrand_b1.FnCycleIsFirstShortestLeastCycle': WHATEVER THE INPUT: true; the input reads as it did. -/
def fnCycleIsFirstShortestLeastCycleSpec : ChangeSpec := { name := "fnCycleIsFirstShortestLeastCycle", fn := fun _ => fun
  | [d1, d2] => { results := [.lit (.bool true)], args := [d1, d2] }
  | _ => none }
def fnCycleIsFirstShortestLeastCycleRow : OpenClaim := { program := "qxb6601988a", sum := "cf2e4b14791393119aeeef5234bcea79887aeea73eae9cf9fa8044d130853120", func := "example.com/ballotproof/ballotproof/zzlaws_internal_herbrand_b1.FnCycleIsFirstShortestLeastCycle", spec := "fnCycleIsFirstShortestLeastCycle", plainKeys := false, apart := false }
def FnCycleIsFirstShortestLeastCycleSaid : Prop := fnCycleIsFirstShortestLeastCycleRow.holds Try.pinned (OpenSpec.ofChange fnCycleIsFirstShortestLeastCycleSpec)

/-- ITS FALSE NEIGHBOUR: 'it returns false'. Refute it at one input. -/
def fnCycleIsFirstShortestLeastCycleWrong : ChangeSpec := { name := "fnCycleIsFirstShortestLeastCycle", fn := fun _ => fun
  | [d1, d2] => { results := [.lit (.bool false)], args := [d1, d2] }
  | _ => none }
def FnCycleIsFirstShortestLeastCycleWrongFalsely : Prop := fnCycleIsFirstShortestLeastCycleRow.holds Try.pinned (OpenSpec.ofChange fnCycleIsFirstShortestLeastCycleWrong)

/-- 'zzlaws_internal_herbrand_b1.FnCycleNoSortHasShorterPathBack': WHATEVER THE INPUT: true; the input reads as it did. -/
def fnCycleNoSortHasShorterPathBackSpec : ChangeSpec := { name := "fnCycleNoSortHasShorterPathBack", fn := fun _ => fun
  | [d1, d2] => { results := [.lit (.bool true)], args := [d1, d2] }
  | _ => none }
def fnCycleNoSortHasShorterPathBackRow : OpenClaim := { program := "qxb6601988a", sum := "cf2e4b14791393119aeeef5234bcea79887aeea73eae9cf9fa8044d130853120", func := "example.com/ballotproof/ballotproof/zzlaws_internal_herbrand_b1.FnCycleNoSortHasShorterPathBack", spec := "fnCycleNoSortHasShorterPathBack", plainKeys := false, apart := false }
def FnCycleNoSortHasShorterPathBackSaid : Prop := fnCycleNoSortHasShorterPathBackRow.holds Try.pinned (OpenSpec.ofChange fnCycleNoSortHasShorterPathBackSpec)

/-- ITS FALSE NEIGHBOUR: 'it returns false'. Refute it at one input. -/
def fnCycleNoSortHasShorterPathBackWrong : ChangeSpec := { name := "fnCycleNoSortHasShorterPathBack", fn := fun _ => fun
  | [d1, d2] => { results := [.lit (.bool false)], args := [d1, d2] }
  | _ => none }
def FnCycleNoSortHasShorterPathBackWrongFalsely : Prop := fnCycleNoSortHasShorterPathBackRow.holds Try.pinned (OpenSpec.ofChange fnCycleNoSortHasShorterPathBackWrong)

end Rows
end Go.Proofs.Qxb6601988a
