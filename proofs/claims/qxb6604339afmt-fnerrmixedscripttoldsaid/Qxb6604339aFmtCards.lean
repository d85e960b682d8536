/-
  DERIVED. GIVEN WITH THE SEED: THE CARDS: each row of Qxb6604339aFmtRows.lean that lists a variable, with what it lists TIED to the program's text (the seventh form; the later family's looks); each row that meets fmt, with fmt's text TOLD by the authors' own Lean function (tested against real Go, not proved from fmt's source: count such statements apart). THE CARD IS WHAT COUNTS. Prove the row's statement (the work); the ties are given (Qxb6604339aFmtTie.lean); close each card by the builder's one call (the guide's Derived/Test/ToyasCard.lean, 'card_holds'). Laid BY PROGRAM, IN A SANDBOX (cutbox-door.mjs). By AI agents, Wed Nov 11 2026. No macro, syntax, notation, axiom, sorry.
-/
import Derived.Test.Qxb6604339aFmtRows
import GoSem.ClaimSeven
namespace Go.Proofs.Qxb6604339aFmt
namespace Rows

/-- THE TOLD AND TIED CARD OF 'zzlaws_internal_rlp_b1.FnBytesRoundTrip'. -/
def fnBytesRoundTripCard : Claim7 := { stood := { row := fnBytesRoundTripRow, standIns := [], harness := (true, "2933364ed972095fe4e9b47a25de5cd8dba49a4faeb091bd3e46367db67fc5cd"), looks := false }, told := true, laidByText := true, laidKinds := [.sentinel, .sentinel, .sentinel], laidTests := true, laidLooks := .later, goes := false }
def FnBytesRoundTripToldSaid : Prop := Claim7.holds Tryf.pinned (.plain (OpenSpec.ofChange fnBytesRoundTripSpec)) fnBytesRoundTripCard
/-- ITS FALSE NEIGHBOUR. Refute it at one input. -/
def FnBytesRoundTripToldWrongFalsely : Prop := Claim7.holds Tryf.pinned (.plain (OpenSpec.ofChange fnBytesRoundTripWrong)) fnBytesRoundTripCard

/-- THE TOLD AND TIED CARD OF 'zzlaws_internal_rlp_b1.FnUintRoundTrip'. -/
def fnUintRoundTripCard : Claim7 := { stood := { row := fnUintRoundTripRow, standIns := [], harness := (true, "2933364ed972095fe4e9b47a25de5cd8dba49a4faeb091bd3e46367db67fc5cd"), looks := false }, told := true, laidByText := true, laidKinds := [.sentinel, .sentinel, .sentinel, .sentinel], laidTests := true, laidLooks := .later, goes := false }
def FnUintRoundTripToldSaid : Prop := Claim7.holds Tryf.pinned (.plain (OpenSpec.ofChange fnUintRoundTripSpec)) fnUintRoundTripCard
/-- ITS FALSE NEIGHBOUR. Refute it at one input. -/
def FnUintRoundTripToldWrongFalsely : Prop := Claim7.holds Tryf.pinned (.plain (OpenSpec.ofChange fnUintRoundTripWrong)) fnUintRoundTripCard

/-- THE TOLD AND TIED CARD OF 'zzlaws_internal_rlp_b1.FnErrTellsWhetherAllAreStrings'. -/
def fnErrTellsWhetherAllAreStringsCard : Claim7 := { stood := { row := fnErrTellsWhetherAllAreStringsRow, standIns := [], harness := (true, "2933364ed972095fe4e9b47a25de5cd8dba49a4faeb091bd3e46367db67fc5cd"), looks := false }, told := true, laidByText := true, laidKinds := [.sentinel, .sentinel, .sentinel], laidTests := true, laidLooks := .later, goes := false }
def FnErrTellsWhetherAllAreStringsToldSaid : Prop := Claim7.holds Tryf.pinned (.plain (OpenSpec.ofChange fnErrTellsWhetherAllAreStringsSpec)) fnErrTellsWhetherAllAreStringsCard
/-- ITS FALSE NEIGHBOUR. Refute it at one input. -/
def FnErrTellsWhetherAllAreStringsToldWrongFalsely : Prop := Claim7.holds Tryf.pinned (.plain (OpenSpec.ofChange fnErrTellsWhetherAllAreStringsWrong)) fnErrTellsWhetherAllAreStringsCard

/-- THE TOLD AND TIED CARD OF 'zzlaws_internal_rlp_b1.FnErrMixedScript'. -/
def fnErrMixedScriptCard : Claim7 := { stood := { row := fnErrMixedScriptRow, standIns := [], harness := (true, "2933364ed972095fe4e9b47a25de5cd8dba49a4faeb091bd3e46367db67fc5cd"), looks := false }, told := true, laidByText := true, laidKinds := [.sentinel, .sentinel, .sentinel, .sentinel], laidTests := true, laidLooks := .later, goes := false }
def FnErrMixedScriptToldSaid : Prop := Claim7.holds Tryf.pinned (.plain (OpenSpec.ofChange fnErrMixedScriptSpec)) fnErrMixedScriptCard
/-- ITS FALSE NEIGHBOUR. Refute it at one input. -/
def FnErrMixedScriptToldWrongFalsely : Prop := Claim7.holds Tryf.pinned (.plain (OpenSpec.ofChange fnErrMixedScriptWrong)) fnErrMixedScriptCard

/-- THE TOLD AND TIED CARD OF 'zzlaws_internal_rlp_b1.FnFailStopsTheScript'. -/
def fnFailStopsTheScriptCard : Claim7 := { stood := { row := fnFailStopsTheScriptRow, standIns := [], harness := (true, "2933364ed972095fe4e9b47a25de5cd8dba49a4faeb091bd3e46367db67fc5cd"), looks := false }, told := true, laidByText := true, laidKinds := [.sentinel, .sentinel, .sentinel], laidTests := true, laidLooks := .later, goes := false }
def FnFailStopsTheScriptToldSaid : Prop := Claim7.holds Tryf.pinned (.plain (OpenSpec.ofChange fnFailStopsTheScriptSpec)) fnFailStopsTheScriptCard
/-- ITS FALSE NEIGHBOUR. Refute it at one input. -/
def FnFailStopsTheScriptToldWrongFalsely : Prop := Claim7.holds Tryf.pinned (.plain (OpenSpec.ofChange fnFailStopsTheScriptWrong)) fnFailStopsTheScriptCard

/-- THE TOLD AND TIED CARD OF 'zzlaws_internal_rlp_b1.FnFailFreezesAFreshReader'. -/
def fnFailFreezesAFreshReaderCard : Claim7 := { stood := { row := fnFailFreezesAFreshReaderRow, standIns := [], harness := (true, "2933364ed972095fe4e9b47a25de5cd8dba49a4faeb091bd3e46367db67fc5cd"), looks := false }, told := true, laidByText := true, laidKinds := [.sentinel, .sentinel, .sentinel, .sentinel], laidTests := true, laidLooks := .later, goes := false }
def FnFailFreezesAFreshReaderToldSaid : Prop := Claim7.holds Tryf.pinned (.plain (OpenSpec.ofChange fnFailFreezesAFreshReaderSpec)) fnFailFreezesAFreshReaderCard
/-- ITS FALSE NEIGHBOUR. Refute it at one input. -/
def FnFailFreezesAFreshReaderToldWrongFalsely : Prop := Claim7.holds Tryf.pinned (.plain (OpenSpec.ofChange fnFailFreezesAFreshReaderWrong)) fnFailFreezesAFreshReaderCard
end Rows
end Go.Proofs.Qxb6604339aFmt
