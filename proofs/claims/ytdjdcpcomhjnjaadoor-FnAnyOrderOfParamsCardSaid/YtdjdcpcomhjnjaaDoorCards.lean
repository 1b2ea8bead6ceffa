/-
  DERIVED. GIVEN WITH THE SEED: THE CARDS: each row of YtdjdcpcomhjnjaaDoorRows.lean that lists a variable, with what it lists TIED to the program's text (the seventh form; the later family's looks); each row that meets fmt, with fmt's text TOLD by the authors' own Lean function (tested against real Go, not proved from fmt's source: count such statements apart). THE CARD IS WHAT COUNTS. Prove the row's statement (the work); the ties are given (YtdjdcpcomhjnjaaDoorTie.lean); close each card by the builder's one call (the guide's Derived/Test/ToyasCard.lean, 'card_holds'). Laid BY PROGRAM, IN A SANDBOX (cutbox-door.mjs). By AI agents, Wed Nov 11 2026. No macro, syntax, notation, axiom, sorry.
-/
import Derived.Test.YtdjdcpcomhjnjaaDoorRows
import GoSem.ClaimSeven
namespace Go.Proofs.YtdjdcpcomhjnjaaDoor
namespace Rows

/-- THE TIED CARD OF 'laws.FnParams'. -/
def fnParamsCard : Claim7 := { stood := { row := fnParamsRow, standIns := [], harness := (true, "7d8527fe629fa3893765198340a2935dc1845819ce52b43cf132ea153fd67ee6"), looks := false }, kinds := [], alts := [], laidByText := true, laidKinds := [.called, .called, .zero], laidTests := true, laidLooks := .later }
def FnParamsCardSaid : Prop := Claim7.holds Tryd.pinned (.plain (OpenSpec.ofChange fnParamsSpec)) fnParamsCard

/-- THE TIED CARD OF 'laws.FnAnyOrderOfParams'. -/
def fnAnyOrderOfParamsCard : Claim7 := { stood := { row := fnAnyOrderOfParamsRow, standIns := [], harness := (true, "7d8527fe629fa3893765198340a2935dc1845819ce52b43cf132ea153fd67ee6"), looks := false }, kinds := [], alts := [], laidByText := true, laidKinds := [.called, .called, .zero], laidTests := true, laidLooks := .later }
def FnAnyOrderOfParamsCardSaid : Prop := Claim7.holds Tryd.pinned (.plain (OpenSpec.ofChange fnAnyOrderOfParamsSpec)) fnAnyOrderOfParamsCard

/-- THE TIED CARD OF 'laws.FnParamsComeBack'. -/
def fnParamsComeBackCard : Claim7 := { stood := { row := fnParamsComeBackRow, standIns := [], harness := (true, "7d8527fe629fa3893765198340a2935dc1845819ce52b43cf132ea153fd67ee6"), looks := false }, kinds := [], alts := [], laidByText := true, laidKinds := [.called, .called, .zero], laidTests := true, laidLooks := .later }
def FnParamsComeBackCardSaid : Prop := Claim7.holds Tryd.pinned (.plain (OpenSpec.ofChange fnParamsComeBackSpec)) fnParamsComeBackCard

/-- THE TIED CARD OF 'laws.FnParamsAreWritten'. -/
def fnParamsAreWrittenCard : Claim7 := { stood := { row := fnParamsAreWrittenRow, standIns := [], harness := (true, "7d8527fe629fa3893765198340a2935dc1845819ce52b43cf132ea153fd67ee6"), looks := false }, kinds := [], alts := [], laidByText := true, laidKinds := [.called, .called, .zero], laidTests := true, laidLooks := .later }
def FnParamsAreWrittenCardSaid : Prop := Claim7.holds Tryd.pinned (.plain (OpenSpec.ofChange fnParamsAreWrittenSpec)) fnParamsAreWrittenCard

/-- THE SECOND FORM's CARD OF 'laws.FnParams'. -/
def fnParamsUptoCard : Claim7 := { stood := { row := fnParamsUptoRow, standIns := [], harness := (true, "7d8527fe629fa3893765198340a2935dc1845819ce52b43cf132ea153fd67ee6"), looks := false }, kinds := [], alts := [], laidByText := true, laidKinds := [.called, .called, .zero], laidTests := true, laidLooks := .later }
def FnParamsUptoCardSaid : Prop := Claim7.holds Tryd.pinned (.plain (OpenSpec.upto fnParamsSpec)) fnParamsUptoCard

/-- THE SECOND FORM's CARD OF 'laws.FnAnyOrderOfParams'. -/
def fnAnyOrderOfParamsUptoCard : Claim7 := { stood := { row := fnAnyOrderOfParamsUptoRow, standIns := [], harness := (true, "7d8527fe629fa3893765198340a2935dc1845819ce52b43cf132ea153fd67ee6"), looks := false }, kinds := [], alts := [], laidByText := true, laidKinds := [.called, .called, .zero], laidTests := true, laidLooks := .later }
def FnAnyOrderOfParamsUptoCardSaid : Prop := Claim7.holds Tryd.pinned (.plain (OpenSpec.upto fnAnyOrderOfParamsSpec)) fnAnyOrderOfParamsUptoCard

/-- THE SECOND FORM's CARD OF 'laws.FnParamsComeBack'. -/
def fnParamsComeBackUptoCard : Claim7 := { stood := { row := fnParamsComeBackUptoRow, standIns := [], harness := (true, "7d8527fe629fa3893765198340a2935dc1845819ce52b43cf132ea153fd67ee6"), looks := false }, kinds := [], alts := [], laidByText := true, laidKinds := [.called, .called, .zero], laidTests := true, laidLooks := .later }
def FnParamsComeBackUptoCardSaid : Prop := Claim7.holds Tryd.pinned (.plain (OpenSpec.upto fnParamsComeBackSpec)) fnParamsComeBackUptoCard

/-- THE SECOND FORM's CARD OF 'laws.FnParamsAreWritten'. -/
def fnParamsAreWrittenUptoCard : Claim7 := { stood := { row := fnParamsAreWrittenUptoRow, standIns := [], harness := (true, "7d8527fe629fa3893765198340a2935dc1845819ce52b43cf132ea153fd67ee6"), looks := false }, kinds := [], alts := [], laidByText := true, laidKinds := [.called, .called, .zero], laidTests := true, laidLooks := .later }
def FnParamsAreWrittenUptoCardSaid : Prop := Claim7.holds Tryd.pinned (.plain (OpenSpec.upto fnParamsAreWrittenSpec)) fnParamsAreWrittenUptoCard
end Rows
end Go.Proofs.YtdjdcpcomhjnjaaDoor
