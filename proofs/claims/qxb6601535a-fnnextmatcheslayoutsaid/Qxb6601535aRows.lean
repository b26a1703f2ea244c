/-
  No cell of these rows narrows 'for every input' (looked for: loops, veiled, ifaces, maps, wideKeys, modest, calm, conditions, laid).
  DERIVED. THE GIVEN ROWS OF THIS SEAT. 7 by the template 'for every input the law returns true; each argument reads behind the call as it read before'; 0 by the template 'total and deterministic' (their statements: Qxb6601535aTotals.lean).
  GIVEN WITH THE SEED: the statements are not yours to turn. If you find one false, say at which input.
  Laid BY PROGRAM, IN A SANDBOX (cutbox-rows.mjs): the forced cells as the released guide's own fill.sh prints them over the translation cb7f31530b41aead… (all of the seat's roots in one cut). By AI agents, Wed Nov 11 2026. No macro, syntax, notation, axiom, sorry.
-/
import Derived.Test.Qxb6601535aChecked
import GoSem.Claim
import GoSem.ClaimJoined
import GoSem.ClaimMapViews
import Derived.JoinedTies
import Derived.KernelRfl
namespace Go.Proofs.Qxb6601535a
/- THE CELL 'sum', in the pinned program and in every row, IS THE sha256 OF THE DUMP (.gsa) THAT Qxb6601535aProg.lean LOADS. Nothing in Lean hashes anything: it is a label: what it is worth is what the hold of that sum in a sandbox is worth. -/
noncomputable def Try.pinned : Pinned := { name := "qxb6601535a", sum := "cb7f31530b41aead649f40a1713d2abd6c4467b4ec2a6cea588ae12e672c7840", checked := Try.checked }
namespace Rows
def none {H : Type} : Left H := { results := [], args := [] }

/-- 'zzlaws_root_b1.FnGroupStartMatchesGrammar': WHATEVER THE INPUT: true; the input reads as it did. -/
def fnGroupStartMatchesGrammarSpec : ChangeSpec := { name := "fnGroupStartMatchesGrammar", fn := fun _ => fun
  | [d1, d2] => { results := [.lit (.bool true)], args := [d1, d2] }
  | _ => none }
def fnGroupStartMatchesGrammarRow : OpenClaim := { program := "qxb6601535a", sum := "cb7f31530b41aead649f40a1713d2abd6c4467b4ec2a6cea588ae12e672c7840", func := "example.com/lewisburg/lewisburg/zzlaws_root_b1.FnGroupStartMatchesGrammar", spec := "fnGroupStartMatchesGrammar", apart := false }
def FnGroupStartMatchesGrammarSaid : Prop := fnGroupStartMatchesGrammarRow.holds Try.pinned (OpenSpec.ofChange fnGroupStartMatchesGrammarSpec)

/-- ITS FALSE NEIGHBOUR: 'it returns false'. Refute it at one input. -/
def fnGroupStartMatchesGrammarWrong : ChangeSpec := { name := "fnGroupStartMatchesGrammar", fn := fun _ => fun
  | [d1, d2] => { results := [.lit (.bool false)], args := [d1, d2] }
  | _ => none }
def FnGroupStartMatchesGrammarWrongFalsely : Prop := fnGroupStartMatchesGrammarRow.holds Try.pinned (OpenSpec.ofChange fnGroupStartMatchesGrammarWrong)

/-- 'zzlaws_root_b1.FnGroupStartShiftsWithPrefix': WHATEVER THE INPUT: true; the input reads as it did. -/
def fnGroupStartShiftsWithPrefixSpec : ChangeSpec := { name := "fnGroupStartShiftsWithPrefix", fn := fun _ => fun
  | [d1, d2, d3] => { results := [.lit (.bool true)], args := [d1, d2, d3] }
  | _ => none }
def fnGroupStartShiftsWithPrefixRow : OpenClaim := { program := "qxb6601535a", sum := "cb7f31530b41aead649f40a1713d2abd6c4467b4ec2a6cea588ae12e672c7840", func := "example.com/lewisburg/lewisburg/zzlaws_root_b1.FnGroupStartShiftsWithPrefix", spec := "fnGroupStartShiftsWithPrefix", apart := false }
def FnGroupStartShiftsWithPrefixSaid : Prop := fnGroupStartShiftsWithPrefixRow.holds Try.pinned (OpenSpec.ofChange fnGroupStartShiftsWithPrefixSpec)

/-- ITS FALSE NEIGHBOUR: 'it returns false'. Refute it at one input. -/
def fnGroupStartShiftsWithPrefixWrong : ChangeSpec := { name := "fnGroupStartShiftsWithPrefix", fn := fun _ => fun
  | [d1, d2, d3] => { results := [.lit (.bool false)], args := [d1, d2, d3] }
  | _ => none }
def FnGroupStartShiftsWithPrefixWrongFalsely : Prop := fnGroupStartShiftsWithPrefixRow.holds Try.pinned (OpenSpec.ofChange fnGroupStartShiftsWithPrefixWrong)

/-- 'zzlaws_root_b1.FnGroupStartAcceptedOpeningIsSettled': WHATEVER THE INPUT: true; the input reads as it did. -/
def fnGroupStartAcceptedOpeningIsSettledSpec : ChangeSpec := { name := "fnGroupStartAcceptedOpeningIsSettled", fn := fun _ => fun
  | [d1, d2, d3] => { results := [.lit (.bool true)], args := [d1, d2, d3] }
  | _ => none }
def fnGroupStartAcceptedOpeningIsSettledRow : OpenClaim := { program := "qxb6601535a", sum := "cb7f31530b41aead649f40a1713d2abd6c4467b4ec2a6cea588ae12e672c7840", func := "example.com/lewisburg/lewisburg/zzlaws_root_b1.FnGroupStartAcceptedOpeningIsSettled", spec := "fnGroupStartAcceptedOpeningIsSettled", apart := false }
def FnGroupStartAcceptedOpeningIsSettledSaid : Prop := fnGroupStartAcceptedOpeningIsSettledRow.holds Try.pinned (OpenSpec.ofChange fnGroupStartAcceptedOpeningIsSettledSpec)

/-- ITS FALSE NEIGHBOUR: 'it returns false'. Refute it at one input. -/
def fnGroupStartAcceptedOpeningIsSettledWrong : ChangeSpec := { name := "fnGroupStartAcceptedOpeningIsSettled", fn := fun _ => fun
  | [d1, d2, d3] => { results := [.lit (.bool false)], args := [d1, d2, d3] }
  | _ => none }
def FnGroupStartAcceptedOpeningIsSettledWrongFalsely : Prop := fnGroupStartAcceptedOpeningIsSettledRow.holds Try.pinned (OpenSpec.ofChange fnGroupStartAcceptedOpeningIsSettledWrong)

/-- 'zzlaws_root_b1.FnNextMatchesLayout': WHATEVER THE INPUT: true; the input reads as it did. -/
def fnNextMatchesLayoutSpec : ChangeSpec := { name := "fnNextMatchesLayout", fn := fun _ => fun
  | [d1, d2, d3, d4, d5] => { results := [.lit (.bool true)], args := [d1, d2, d3, d4, d5] }
  | _ => none }
def fnNextMatchesLayoutRow : OpenClaim := { program := "qxb6601535a", sum := "cb7f31530b41aead649f40a1713d2abd6c4467b4ec2a6cea588ae12e672c7840", func := "example.com/lewisburg/lewisburg/zzlaws_root_b1.FnNextMatchesLayout", spec := "fnNextMatchesLayout", apart := false }
def FnNextMatchesLayoutSaid : Prop := fnNextMatchesLayoutRow.holds Try.pinned (OpenSpec.ofChange fnNextMatchesLayoutSpec)

/-- ITS FALSE NEIGHBOUR: 'it returns false'. Refute it at one input. -/
def fnNextMatchesLayoutWrong : ChangeSpec := { name := "fnNextMatchesLayout", fn := fun _ => fun
  | [d1, d2, d3, d4, d5] => { results := [.lit (.bool false)], args := [d1, d2, d3, d4, d5] }
  | _ => none }
def FnNextMatchesLayoutWrongFalsely : Prop := fnNextMatchesLayoutRow.holds Try.pinned (OpenSpec.ofChange fnNextMatchesLayoutWrong)

/-- 'zzlaws_root_b1.FnNextReadsWhatWasLaidOut': WHATEVER THE INPUT: true; the input reads as it did. -/
def fnNextReadsWhatWasLaidOutSpec : ChangeSpec := { name := "fnNextReadsWhatWasLaidOut", fn := fun _ => fun
  | [d1, d2, d3, d4, d5, d6, d7, d8] => { results := [.lit (.bool true)], args := [d1, d2, d3, d4, d5, d6, d7, d8] }
  | _ => none }
def fnNextReadsWhatWasLaidOutRow : OpenClaim := { program := "qxb6601535a", sum := "cb7f31530b41aead649f40a1713d2abd6c4467b4ec2a6cea588ae12e672c7840", func := "example.com/lewisburg/lewisburg/zzlaws_root_b1.FnNextReadsWhatWasLaidOut", spec := "fnNextReadsWhatWasLaidOut", apart := false }
def FnNextReadsWhatWasLaidOutSaid : Prop := fnNextReadsWhatWasLaidOutRow.holds Try.pinned (OpenSpec.ofChange fnNextReadsWhatWasLaidOutSpec)

/-- ITS FALSE NEIGHBOUR: 'it returns false'. Refute it at one input. -/
def fnNextReadsWhatWasLaidOutWrong : ChangeSpec := { name := "fnNextReadsWhatWasLaidOut", fn := fun _ => fun
  | [d1, d2, d3, d4, d5, d6, d7, d8] => { results := [.lit (.bool false)], args := [d1, d2, d3, d4, d5, d6, d7, d8] }
  | _ => none }
def FnNextReadsWhatWasLaidOutWrongFalsely : Prop := fnNextReadsWhatWasLaidOutRow.holds Try.pinned (OpenSpec.ofChange fnNextReadsWhatWasLaidOutWrong)

/-- 'zzlaws_root_b1.FnLinkChainsEachCodeInOrder': WHATEVER THE INPUT: true; the input reads as it did. -/
def fnLinkChainsEachCodeInOrderSpec : ChangeSpec := { name := "fnLinkChainsEachCodeInOrder", fn := fun _ => fun
  | [d1, d2, d3, d4] => { results := [.lit (.bool true)], args := [d1, d2, d3, d4] }
  | _ => none }
def fnLinkChainsEachCodeInOrderRow : OpenClaim := { program := "qxb6601535a", sum := "cb7f31530b41aead649f40a1713d2abd6c4467b4ec2a6cea588ae12e672c7840", func := "example.com/lewisburg/lewisburg/zzlaws_root_b1.FnLinkChainsEachCodeInOrder", spec := "fnLinkChainsEachCodeInOrder", apart := false }
def FnLinkChainsEachCodeInOrderSaid : Prop := fnLinkChainsEachCodeInOrderRow.holds Try.pinned (OpenSpec.ofChange fnLinkChainsEachCodeInOrderSpec)

/-- ITS FALSE NEIGHBOUR: 'it returns false'. Refute it at one input. -/
def fnLinkChainsEachCodeInOrderWrong : ChangeSpec := { name := "fnLinkChainsEachCodeInOrder", fn := fun _ => fun
  | [d1, d2, d3, d4] => { results := [.lit (.bool false)], args := [d1, d2, d3, d4] }
  | _ => none }
def FnLinkChainsEachCodeInOrderWrongFalsely : Prop := fnLinkChainsEachCodeInOrderRow.holds Try.pinned (OpenSpec.ofChange fnLinkChainsEachCodeInOrderWrong)

/-- 'zzlaws_root_b1.FnLinkTwiceIsOnce': WHATEVER THE INPUT: true; the input reads as it did. -/
def fnLinkTwiceIsOnceSpec : ChangeSpec := { name := "fnLinkTwiceIsOnce", fn := fun _ => fun
  | [d1, d2, d3, d4] => { results := [.lit (.bool true)], args := [d1, d2, d3, d4] }
  | _ => none }
def fnLinkTwiceIsOnceRow : OpenClaim := { program := "qxb6601535a", sum := "cb7f31530b41aead649f40a1713d2abd6c4467b4ec2a6cea588ae12e672c7840", func := "example.com/lewisburg/lewisburg/zzlaws_root_b1.FnLinkTwiceIsOnce", spec := "fnLinkTwiceIsOnce", apart := false }
def FnLinkTwiceIsOnceSaid : Prop := fnLinkTwiceIsOnceRow.holds Try.pinned (OpenSpec.ofChange fnLinkTwiceIsOnceSpec)

/-- ITS FALSE NEIGHBOUR: 'it returns false'. Refute it at one input. -/
def fnLinkTwiceIsOnceWrong : ChangeSpec := { name := "fnLinkTwiceIsOnce", fn := fun _ => fun
  | [d1, d2, d3, d4] => { results := [.lit (.bool false)], args := [d1, d2, d3, d4] }
  | _ => none }
def FnLinkTwiceIsOnceWrongFalsely : Prop := fnLinkTwiceIsOnceRow.holds Try.pinned (OpenSpec.ofChange fnLinkTwiceIsOnceWrong)

end Rows
end Go.Proofs.Qxb6601535a
