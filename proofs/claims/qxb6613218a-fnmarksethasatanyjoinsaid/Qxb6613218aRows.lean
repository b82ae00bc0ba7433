/-
  No cell of these rows narrows 'for every input' (looked for: loops, veiled, ifaces, maps, wideKeys, modest, calm, conditions, laid).
  DERIVED. THE GIVEN ROWS OF THIS SEAT. 5 by the template 'for every input the law returns true; each argument reads behind the call as it read before'; 0 by the template 'total and deterministic' (their statements: Qxb6613218aTotals.lean).
  GIVEN WITH THE SEED: the statements are not yours to turn. If you find one false, say at which input.
  Laid BY PROGRAM, IN A SANDBOX (cutbox-rows.mjs): the forced cells as the released guide's own fill.sh prints them over the translation 3fb1b927e3a02966… (all of the seat's roots in one cut). By AI agents, Wed Nov 11 2026. No macro, syntax, notation, axiom, sorry.
-/
import Derived.Test.Qxb6613218aChecked
import GoSem.Claim
import GoSem.ClaimJoined
import GoSem.ClaimMapViews
import Derived.JoinedTies
import Derived.KernelRfl
namespace Go.Proofs.Qxb6613218a
/- THE CELL 'sum', in the pinned program and in every row, IS THE sha256 OF THE DUMP (.gsa) THAT Qxb6613218aProg.lean LOADS. Nothing in Lean hashes anything: it is a label: what it is worth is what the hold of that sum in a sandbox is worth. -/
noncomputable def Try.pinned : Pinned := { name := "qxb6613218a", sum := "3fb1b927e3a02966cc3f2f9812bc8f3e1ed71bbe40638861477b2f0568b4cb50", checked := Try.checked }
namespace Rows
def none {H : Type} : Left H := { results := [], args := [] }

/-- 'zzlaws_pkg_engine_b1.FnMarkSetHasReadsBackEveryWord': WHATEVER THE INPUT: true; the input reads as it did. -/
def fnMarkSetHasReadsBackEveryWordSpec : ChangeSpec := { name := "fnMarkSetHasReadsBackEveryWord", fn := fun _ => fun
  | [d] => { results := [.lit (.bool true)], args := [d] }
  | _ => none }
def fnMarkSetHasReadsBackEveryWordRow : OpenClaim := { program := "qxb6613218a", sum := "3fb1b927e3a02966cc3f2f9812bc8f3e1ed71bbe40638861477b2f0568b4cb50", func := "example.com/precedence/precedence/zzlaws_pkg_engine_b1.FnMarkSetHasReadsBackEveryWord", spec := "fnMarkSetHasReadsBackEveryWord", apart := false }
def FnMarkSetHasReadsBackEveryWordSaid : Prop := fnMarkSetHasReadsBackEveryWordRow.holds Try.pinned (OpenSpec.ofChange fnMarkSetHasReadsBackEveryWordSpec)

/-- ITS FALSE NEIGHBOUR: 'it returns false'. Refute it at one input. -/
def fnMarkSetHasReadsBackEveryWordWrong : ChangeSpec := { name := "fnMarkSetHasReadsBackEveryWord", fn := fun _ => fun
  | [d] => { results := [.lit (.bool false)], args := [d] }
  | _ => none }
def FnMarkSetHasReadsBackEveryWordWrongFalsely : Prop := fnMarkSetHasReadsBackEveryWordRow.holds Try.pinned (OpenSpec.ofChange fnMarkSetHasReadsBackEveryWordWrong)

/-- 'zzlaws_pkg_engine_b1.FnMarkSetHasAtAnyJoin': WHATEVER THE INPUT: true; the input reads as it did. -/
def fnMarkSetHasAtAnyJoinSpec : ChangeSpec := { name := "fnMarkSetHasAtAnyJoin", fn := fun _ => fun
  | [d1, d2] => { results := [.lit (.bool true)], args := [d1, d2] }
  | _ => none }
def fnMarkSetHasAtAnyJoinRow : OpenClaim := { program := "qxb6613218a", sum := "3fb1b927e3a02966cc3f2f9812bc8f3e1ed71bbe40638861477b2f0568b4cb50", func := "example.com/precedence/precedence/zzlaws_pkg_engine_b1.FnMarkSetHasAtAnyJoin", spec := "fnMarkSetHasAtAnyJoin", apart := false }
def FnMarkSetHasAtAnyJoinSaid : Prop := fnMarkSetHasAtAnyJoinRow.holds Try.pinned (OpenSpec.ofChange fnMarkSetHasAtAnyJoinSpec)

/-- ITS FALSE NEIGHBOUR: 'it returns false'. Refute it at one input. -/
def fnMarkSetHasAtAnyJoinWrong : ChangeSpec := { name := "fnMarkSetHasAtAnyJoin", fn := fun _ => fun
  | [d1, d2] => { results := [.lit (.bool false)], args := [d1, d2] }
  | _ => none }
def FnMarkSetHasAtAnyJoinWrongFalsely : Prop := fnMarkSetHasAtAnyJoinRow.holds Try.pinned (OpenSpec.ofChange fnMarkSetHasAtAnyJoinWrong)

/-- 'zzlaws_pkg_engine_b1.FnCapabilitiesOutscoreGroupsAtAnyCut': WHATEVER THE INPUT: true; the input reads as it did. -/
def fnCapabilitiesOutscoreGroupsAtAnyCutSpec : ChangeSpec := { name := "fnCapabilitiesOutscoreGroupsAtAnyCut", fn := fun _ => fun
  | [d1, d2] => { results := [.lit (.bool true)], args := [d1, d2] }
  | _ => none }
def fnCapabilitiesOutscoreGroupsAtAnyCutRow : OpenClaim := { program := "qxb6613218a", sum := "3fb1b927e3a02966cc3f2f9812bc8f3e1ed71bbe40638861477b2f0568b4cb50", func := "example.com/precedence/precedence/zzlaws_pkg_engine_b1.FnCapabilitiesOutscoreGroupsAtAnyCut", spec := "fnCapabilitiesOutscoreGroupsAtAnyCut", apart := false }
def FnCapabilitiesOutscoreGroupsAtAnyCutSaid : Prop := fnCapabilitiesOutscoreGroupsAtAnyCutRow.holds Try.pinned (OpenSpec.ofChange fnCapabilitiesOutscoreGroupsAtAnyCutSpec)

/-- ITS FALSE NEIGHBOUR: 'it returns false'. Refute it at one input. -/
def fnCapabilitiesOutscoreGroupsAtAnyCutWrong : ChangeSpec := { name := "fnCapabilitiesOutscoreGroupsAtAnyCut", fn := fun _ => fun
  | [d1, d2] => { results := [.lit (.bool false)], args := [d1, d2] }
  | _ => none }
def FnCapabilitiesOutscoreGroupsAtAnyCutWrongFalsely : Prop := fnCapabilitiesOutscoreGroupsAtAnyCutRow.holds Try.pinned (OpenSpec.ofChange fnCapabilitiesOutscoreGroupsAtAnyCutWrong)

/-- 'zzlaws_pkg_engine_b1.FnHasCapabilitiesInsertAddsTwentyFive': WHATEVER THE INPUT: true; the input reads as it did. -/
def fnHasCapabilitiesInsertAddsTwentyFiveSpec : ChangeSpec := { name := "fnHasCapabilitiesInsertAddsTwentyFive", fn := fun _ => fun
  | [d1, d2, d3] => { results := [.lit (.bool true)], args := [d1, d2, d3] }
  | _ => none }
def fnHasCapabilitiesInsertAddsTwentyFiveRow : OpenClaim := { program := "qxb6613218a", sum := "3fb1b927e3a02966cc3f2f9812bc8f3e1ed71bbe40638861477b2f0568b4cb50", func := "example.com/precedence/precedence/zzlaws_pkg_engine_b1.FnHasCapabilitiesInsertAddsTwentyFive", spec := "fnHasCapabilitiesInsertAddsTwentyFive", apart := false }
def FnHasCapabilitiesInsertAddsTwentyFiveSaid : Prop := fnHasCapabilitiesInsertAddsTwentyFiveRow.holds Try.pinned (OpenSpec.ofChange fnHasCapabilitiesInsertAddsTwentyFiveSpec)

/-- ITS FALSE NEIGHBOUR: 'it returns false'. Refute it at one input. -/
def fnHasCapabilitiesInsertAddsTwentyFiveWrong : ChangeSpec := { name := "fnHasCapabilitiesInsertAddsTwentyFive", fn := fun _ => fun
  | [d1, d2, d3] => { results := [.lit (.bool false)], args := [d1, d2, d3] }
  | _ => none }
def FnHasCapabilitiesInsertAddsTwentyFiveWrongFalsely : Prop := fnHasCapabilitiesInsertAddsTwentyFiveRow.holds Try.pinned (OpenSpec.ofChange fnHasCapabilitiesInsertAddsTwentyFiveWrong)

/-- 'zzlaws_pkg_engine_b1.FnInSomeGroupInsertAddsTwenty': WHATEVER THE INPUT: true; the input reads as it did. -/
def fnInSomeGroupInsertAddsTwentySpec : ChangeSpec := { name := "fnInSomeGroupInsertAddsTwenty", fn := fun _ => fun
  | [d1, d2, d3] => { results := [.lit (.bool true)], args := [d1, d2, d3] }
  | _ => none }
def fnInSomeGroupInsertAddsTwentyRow : OpenClaim := { program := "qxb6613218a", sum := "3fb1b927e3a02966cc3f2f9812bc8f3e1ed71bbe40638861477b2f0568b4cb50", func := "example.com/precedence/precedence/zzlaws_pkg_engine_b1.FnInSomeGroupInsertAddsTwenty", spec := "fnInSomeGroupInsertAddsTwenty", apart := false }
def FnInSomeGroupInsertAddsTwentySaid : Prop := fnInSomeGroupInsertAddsTwentyRow.holds Try.pinned (OpenSpec.ofChange fnInSomeGroupInsertAddsTwentySpec)

/-- ITS FALSE NEIGHBOUR: 'it returns false'. Refute it at one input. -/
def fnInSomeGroupInsertAddsTwentyWrong : ChangeSpec := { name := "fnInSomeGroupInsertAddsTwenty", fn := fun _ => fun
  | [d1, d2, d3] => { results := [.lit (.bool false)], args := [d1, d2, d3] }
  | _ => none }
def FnInSomeGroupInsertAddsTwentyWrongFalsely : Prop := fnInSomeGroupInsertAddsTwentyRow.holds Try.pinned (OpenSpec.ofChange fnInSomeGroupInsertAddsTwentyWrong)

end Rows
end Go.Proofs.Qxb6613218a
