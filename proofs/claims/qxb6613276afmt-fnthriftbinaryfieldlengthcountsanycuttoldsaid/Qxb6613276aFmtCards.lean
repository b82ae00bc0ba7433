/-
  DERIVED. GIVEN WITH THE SEED: THE CARDS: each row of Qxb6613276aFmtRows.lean that lists a variable, with what it lists TIED to the program's text (the seventh form; the later family's looks); each row that meets fmt, with fmt's text TOLD by the authors' own Lean function (tested against real Go, not proved from fmt's source: count such statements apart). THE CARD IS WHAT COUNTS. Prove the row's statement (the work); the ties are given (Qxb6613276aFmtTie.lean); close each card by the builder's one call (the guide's Derived/Test/ToyasCard.lean, 'card_holds'). Laid BY PROGRAM, IN A SANDBOX (cutbox-door.mjs). By AI agents, Wed Nov 11 2026. No macro, syntax, notation, axiom, sorry.
-/
import Derived.Test.Qxb6613276aFmtRows
import GoSem.ClaimSeven
namespace Go.Proofs.Qxb6613276aFmt
namespace Rows

/-- THE TOLD AND TIED CARD OF 'zzlaws_root_b1.FnJSONEscapeCutShortEndsNeverRefuses'. -/
def fnJSONEscapeCutShortEndsNeverRefusesCard : Claim7 := { stood := { row := fnJSONEscapeCutShortEndsNeverRefusesRow, standIns := [], harness := (true, "ca1c4372deb76760cb0c19209a9375900ec9e4f80b4994a1a84adb4d3a31d271"), looks := false }, told := true, laidByText := true, laidKinds := [.data, .pinned, .pinned, .pinned, .pinned, .pinned, .pinned], laidTests := true, laidLooks := .later, goes := false }
def FnJSONEscapeCutShortEndsNeverRefusesToldSaid : Prop := Claim7.holds Tryf.pinned (.plain (OpenSpec.ofChange fnJSONEscapeCutShortEndsNeverRefusesSpec)) fnJSONEscapeCutShortEndsNeverRefusesCard
/-- ITS FALSE NEIGHBOUR. Refute it at one input. -/
def FnJSONEscapeCutShortEndsNeverRefusesToldWrongFalsely : Prop := Claim7.holds Tryf.pinned (.plain (OpenSpec.ofChange fnJSONEscapeCutShortEndsNeverRefusesWrong)) fnJSONEscapeCutShortEndsNeverRefusesCard

/-- THE TOLD AND TIED CARD OF 'zzlaws_root_b1.FnJSONEscapeRefusalIsFinal'. -/
def fnJSONEscapeRefusalIsFinalCard : Claim7 := { stood := { row := fnJSONEscapeRefusalIsFinalRow, standIns := [], harness := (true, "ca1c4372deb76760cb0c19209a9375900ec9e4f80b4994a1a84adb4d3a31d271"), looks := false }, told := true, laidByText := true, laidKinds := [.data, .pinned, .pinned, .pinned, .pinned, .pinned, .pinned], laidTests := true, laidLooks := .later, goes := false }
def FnJSONEscapeRefusalIsFinalToldSaid : Prop := Claim7.holds Tryf.pinned (.plain (OpenSpec.ofChange fnJSONEscapeRefusalIsFinalSpec)) fnJSONEscapeRefusalIsFinalCard
/-- ITS FALSE NEIGHBOUR. Refute it at one input. -/
def FnJSONEscapeRefusalIsFinalToldWrongFalsely : Prop := Claim7.holds Tryf.pinned (.plain (OpenSpec.ofChange fnJSONEscapeRefusalIsFinalWrong)) fnJSONEscapeRefusalIsFinalCard

/-- THE TOLD CARD OF 'zzlaws_root_b1.FnThriftBinaryFieldsReadBackInOrder'. -/
def fnThriftBinaryFieldsReadBackInOrderCard : Claim7 := { stood := { row := fnThriftBinaryFieldsReadBackInOrderRow, standIns := [], harness := (true, "ca1c4372deb76760cb0c19209a9375900ec9e4f80b4994a1a84adb4d3a31d271"), looks := false }, told := true, goes := false }
def FnThriftBinaryFieldsReadBackInOrderToldSaid : Prop := Claim7.holds Tryf.pinned (.plain (OpenSpec.ofChange fnThriftBinaryFieldsReadBackInOrderSpec)) fnThriftBinaryFieldsReadBackInOrderCard
/-- ITS FALSE NEIGHBOUR. Refute it at one input. -/
def FnThriftBinaryFieldsReadBackInOrderToldWrongFalsely : Prop := Claim7.holds Tryf.pinned (.plain (OpenSpec.ofChange fnThriftBinaryFieldsReadBackInOrderWrong)) fnThriftBinaryFieldsReadBackInOrderCard

/-- THE TOLD CARD OF 'zzlaws_root_b1.FnThriftBinaryFieldLengthCountsAnyCut'. -/
def fnThriftBinaryFieldLengthCountsAnyCutCard : Claim7 := { stood := { row := fnThriftBinaryFieldLengthCountsAnyCutRow, standIns := [], harness := (true, "ca1c4372deb76760cb0c19209a9375900ec9e4f80b4994a1a84adb4d3a31d271"), looks := false }, told := true, goes := false }
def FnThriftBinaryFieldLengthCountsAnyCutToldSaid : Prop := Claim7.holds Tryf.pinned (.plain (OpenSpec.ofChange fnThriftBinaryFieldLengthCountsAnyCutSpec)) fnThriftBinaryFieldLengthCountsAnyCutCard
/-- ITS FALSE NEIGHBOUR. Refute it at one input. -/
def FnThriftBinaryFieldLengthCountsAnyCutToldWrongFalsely : Prop := Claim7.holds Tryf.pinned (.plain (OpenSpec.ofChange fnThriftBinaryFieldLengthCountsAnyCutWrong)) fnThriftBinaryFieldLengthCountsAnyCutCard
end Rows
end Go.Proofs.Qxb6613276aFmt
