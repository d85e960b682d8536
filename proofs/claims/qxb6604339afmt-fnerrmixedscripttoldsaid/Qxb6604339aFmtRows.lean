/-
  NARROWER THAN 'FOR EVERY INPUT', by the rows' own cells (each row's printed sentence says how): FnBytesRoundTrip: ifaces, laid · FnUintRoundTrip: ifaces, laid · FnErrTellsWhetherAllAreStrings: ifaces, laid · FnErrMixedScript: ifaces, laid · FnFailStopsTheScript: ifaces, laid · FnFailFreezesAFreshReader: ifaces, laid.
  DERIVED. THE GIVEN ROWS OF THIS SEAT. 6 by the template 'for every input the law returns true; each argument reads behind the call as it read before'; 0 by the template 'total and deterministic' (their statements: Qxb6604339aFmtTotals.lean).
  GIVEN WITH THE SEED: the statements are not yours to turn. If you find one false, say at which input.
  Laid BY PROGRAM, IN A SANDBOX (cutbox-rows.mjs): the forced cells as the released guide's own fill.sh prints them over the translation e282b4b02aea8ef3… (all of the seat's roots in one cut). By AI agents, Wed Nov 11 2026. No macro, syntax, notation, axiom, sorry.
-/
import Derived.Test.Qxb6604339aFmtChecked
import GoSem.Claim
import GoSem.ClaimJoined
import GoSem.ClaimMapViews
import Derived.JoinedTies
import Derived.KernelRfl
namespace Go.Proofs.Qxb6604339aFmt
/- THE CELL 'sum', in the pinned program and in every row, IS THE sha256 OF THE DUMP (.gsa) THAT Qxb6604339aFmtProg.lean LOADS. Nothing in Lean hashes anything: it is a label: what it is worth is what the hold of that sum in a sandbox is worth. -/
noncomputable def Tryf.pinned : Pinned := { name := "qxb6604339afmt", sum := "e282b4b02aea8ef3d6c41ef258b16b84adb840b198889ce251b381a77e01b4c4", checked := Tryf.checked }
namespace Rows
def none {H : Type} : Left H := { results := [], args := [] }

/- WHAT THE LISTED PACKAGE-LEVEL VARIABLES READ AS WHEN THE CALL BEGINS. Each datum BY PROGRAM (the guide's laid-datum.mjs) off the statement by which the dump's own 'gosem.cut.vars' lays the variable. In a bare row this is a premise. The card (Qxb6604339aFmtCards.lean) ties it to the program's text. -/
def laid_example_com_scoutwire_scoutwire_internal_rlp_ErrTruncated {H : Type} : DataW H := .iface "*errors.errorString" (.ptr (.agg [.lit (.string [114, 108, 112, 58, 32, 105, 116, 101, 109, 32, 114, 117, 110, 115, 32, 112, 97, 115, 116, 32, 116, 104, 101, 32, 101, 110, 100, 32, 111, 102, 32, 105, 116, 115, 32, 105, 110, 112, 117, 116])]))
def laid_example_com_scoutwire_scoutwire_internal_rlp_ErrNonCanonical {H : Type} : DataW H := .iface "*errors.errorString" (.ptr (.agg [.lit (.string [114, 108, 112, 58, 32, 110, 111, 110, 45, 99, 97, 110, 111, 110, 105, 99, 97, 108, 32, 101, 110, 99, 111, 100, 105, 110, 103])]))
def laid_example_com_scoutwire_scoutwire_internal_rlp_ErrNotString {H : Type} : DataW H := .iface "*errors.errorString" (.ptr (.agg [.lit (.string [114, 108, 112, 58, 32, 101, 120, 112, 101, 99, 116, 101, 100, 32, 97, 32, 115, 116, 114, 105, 110, 103, 44, 32, 102, 111, 117, 110, 100, 32, 97, 32, 108, 105, 115, 116])]))
def laid_example_com_scoutwire_scoutwire_internal_rlp_ErrUintOverflow {H : Type} : DataW H := .iface "*errors.errorString" (.ptr (.agg [.lit (.string [114, 108, 112, 58, 32, 105, 110, 116, 101, 103, 101, 114, 32, 108, 97, 114, 103, 101, 114, 32, 116, 104, 97, 110, 32, 54, 52, 32, 98, 105, 116, 115])]))

/-- 'zzlaws_internal_rlp_b1.FnBytesRoundTrip': WHATEVER THE INPUT: true; the input reads as it did. -/
def fnBytesRoundTripSpec : ChangeSpec := { name := "fnBytesRoundTrip", vars := ["example.com/scoutwire/scoutwire/internal/rlp.ErrNotString", "example.com/scoutwire/scoutwire/internal/rlp.ErrTruncated", "example.com/scoutwire/scoutwire/internal/rlp.ErrNonCanonical"], fn := fun _ => fun
  | [d1, d2, d3, g1, g2, g3] => { results := [.lit (.bool true)], args := [d1, d2, d3], vars := [g1, g2, g3] }
  | _ => none }
def fnBytesRoundTripRow : OpenClaim := { program := "qxb6604339afmt", sum := "e282b4b02aea8ef3d6c41ef258b16b84adb840b198889ce251b381a77e01b4c4", func := "example.com/scoutwire/scoutwire/zzlaws_internal_rlp_b1.FnBytesRoundTrip", spec := "fnBytesRoundTrip", stops := ["fmt.errorf"], inPlace := ["fmt.errorf"], unfollowed := true, recurses := true, named := ["example.com/scoutwire/scoutwire/internal/rlp.ErrNotString", "example.com/scoutwire/scoutwire/internal/rlp.ErrTruncated", "example.com/scoutwire/scoutwire/internal/rlp.ErrNonCanonical"], ifaces := true, apart := false, laid := [("example.com/scoutwire/scoutwire/internal/rlp.ErrTruncated", laid_example_com_scoutwire_scoutwire_internal_rlp_ErrTruncated), ("example.com/scoutwire/scoutwire/internal/rlp.ErrNonCanonical", laid_example_com_scoutwire_scoutwire_internal_rlp_ErrNonCanonical), ("example.com/scoutwire/scoutwire/internal/rlp.ErrNotString", laid_example_com_scoutwire_scoutwire_internal_rlp_ErrNotString)] }
/-- NO THEOREM (fmt's text is open here; it may be false): for the released tool's asking of the row's closed facts alone. THE STATEMENT IS 'FnBytesRoundTripToldSaid' (Qxb6604339aFmtCards.lean). -/
def FnBytesRoundTripFormAsk : Prop := fnBytesRoundTripRow.holds Tryf.pinned (OpenSpec.ofChange fnBytesRoundTripSpec)

/-- ITS FALSE NEIGHBOUR: 'it returns false'. Refute it at one input. -/
def fnBytesRoundTripWrong : ChangeSpec := { name := "fnBytesRoundTrip", vars := ["example.com/scoutwire/scoutwire/internal/rlp.ErrNotString", "example.com/scoutwire/scoutwire/internal/rlp.ErrTruncated", "example.com/scoutwire/scoutwire/internal/rlp.ErrNonCanonical"], fn := fun _ => fun
  | [d1, d2, d3, g1, g2, g3] => { results := [.lit (.bool false)], args := [d1, d2, d3], vars := [g1, g2, g3] }
  | _ => none }
def FnBytesRoundTripWrongFormAsk : Prop := fnBytesRoundTripRow.holds Tryf.pinned (OpenSpec.ofChange fnBytesRoundTripWrong)

/-- 'zzlaws_internal_rlp_b1.FnUintRoundTrip': WHATEVER THE INPUT: true; the input reads as it did. -/
def fnUintRoundTripSpec : ChangeSpec := { name := "fnUintRoundTrip", vars := ["example.com/scoutwire/scoutwire/internal/rlp.ErrUintOverflow", "example.com/scoutwire/scoutwire/internal/rlp.ErrNonCanonical", "example.com/scoutwire/scoutwire/internal/rlp.ErrNotString", "example.com/scoutwire/scoutwire/internal/rlp.ErrTruncated"], fn := fun _ => fun
  | [d1, d2, d3, g1, g2, g3, g4] => { results := [.lit (.bool true)], args := [d1, d2, d3], vars := [g1, g2, g3, g4] }
  | _ => none }
def fnUintRoundTripRow : OpenClaim := { program := "qxb6604339afmt", sum := "e282b4b02aea8ef3d6c41ef258b16b84adb840b198889ce251b381a77e01b4c4", func := "example.com/scoutwire/scoutwire/zzlaws_internal_rlp_b1.FnUintRoundTrip", spec := "fnUintRoundTrip", stops := ["fmt.errorf"], inPlace := ["fmt.errorf"], unfollowed := true, recurses := true, named := ["example.com/scoutwire/scoutwire/internal/rlp.ErrUintOverflow", "example.com/scoutwire/scoutwire/internal/rlp.ErrNonCanonical", "example.com/scoutwire/scoutwire/internal/rlp.ErrNotString", "example.com/scoutwire/scoutwire/internal/rlp.ErrTruncated"], ifaces := true, apart := false, laid := [("example.com/scoutwire/scoutwire/internal/rlp.ErrTruncated", laid_example_com_scoutwire_scoutwire_internal_rlp_ErrTruncated), ("example.com/scoutwire/scoutwire/internal/rlp.ErrNonCanonical", laid_example_com_scoutwire_scoutwire_internal_rlp_ErrNonCanonical), ("example.com/scoutwire/scoutwire/internal/rlp.ErrNotString", laid_example_com_scoutwire_scoutwire_internal_rlp_ErrNotString), ("example.com/scoutwire/scoutwire/internal/rlp.ErrUintOverflow", laid_example_com_scoutwire_scoutwire_internal_rlp_ErrUintOverflow)] }
/-- NO THEOREM (fmt's text is open here; it may be false): for the released tool's asking of the row's closed facts alone. THE STATEMENT IS 'FnUintRoundTripToldSaid' (Qxb6604339aFmtCards.lean). -/
def FnUintRoundTripFormAsk : Prop := fnUintRoundTripRow.holds Tryf.pinned (OpenSpec.ofChange fnUintRoundTripSpec)

/-- ITS FALSE NEIGHBOUR: 'it returns false'. Refute it at one input. -/
def fnUintRoundTripWrong : ChangeSpec := { name := "fnUintRoundTrip", vars := ["example.com/scoutwire/scoutwire/internal/rlp.ErrUintOverflow", "example.com/scoutwire/scoutwire/internal/rlp.ErrNonCanonical", "example.com/scoutwire/scoutwire/internal/rlp.ErrNotString", "example.com/scoutwire/scoutwire/internal/rlp.ErrTruncated"], fn := fun _ => fun
  | [d1, d2, d3, g1, g2, g3, g4] => { results := [.lit (.bool false)], args := [d1, d2, d3], vars := [g1, g2, g3, g4] }
  | _ => none }
def FnUintRoundTripWrongFormAsk : Prop := fnUintRoundTripRow.holds Tryf.pinned (OpenSpec.ofChange fnUintRoundTripWrong)

/-- 'zzlaws_internal_rlp_b1.FnErrTellsWhetherAllAreStrings': WHATEVER THE INPUT: true; the input reads as it did. -/
def fnErrTellsWhetherAllAreStringsSpec : ChangeSpec := { name := "fnErrTellsWhetherAllAreStrings", vars := ["example.com/scoutwire/scoutwire/internal/rlp.ErrNotString", "example.com/scoutwire/scoutwire/internal/rlp.ErrTruncated", "example.com/scoutwire/scoutwire/internal/rlp.ErrNonCanonical"], fn := fun _ => fun
  | [d1, d2, g1, g2, g3] => { results := [.lit (.bool true)], args := [d1, d2], vars := [g1, g2, g3] }
  | _ => none }
def fnErrTellsWhetherAllAreStringsRow : OpenClaim := { program := "qxb6604339afmt", sum := "e282b4b02aea8ef3d6c41ef258b16b84adb840b198889ce251b381a77e01b4c4", func := "example.com/scoutwire/scoutwire/zzlaws_internal_rlp_b1.FnErrTellsWhetherAllAreStrings", spec := "fnErrTellsWhetherAllAreStrings", stops := ["fmt.errorf"], inPlace := ["fmt.errorf"], unfollowed := true, recurses := true, named := ["example.com/scoutwire/scoutwire/internal/rlp.ErrNotString", "example.com/scoutwire/scoutwire/internal/rlp.ErrTruncated", "example.com/scoutwire/scoutwire/internal/rlp.ErrNonCanonical"], ifaces := true, apart := false, laid := [("example.com/scoutwire/scoutwire/internal/rlp.ErrTruncated", laid_example_com_scoutwire_scoutwire_internal_rlp_ErrTruncated), ("example.com/scoutwire/scoutwire/internal/rlp.ErrNonCanonical", laid_example_com_scoutwire_scoutwire_internal_rlp_ErrNonCanonical), ("example.com/scoutwire/scoutwire/internal/rlp.ErrNotString", laid_example_com_scoutwire_scoutwire_internal_rlp_ErrNotString)] }
/-- NO THEOREM (fmt's text is open here; it may be false): for the released tool's asking of the row's closed facts alone. THE STATEMENT IS 'FnErrTellsWhetherAllAreStringsToldSaid' (Qxb6604339aFmtCards.lean). -/
def FnErrTellsWhetherAllAreStringsFormAsk : Prop := fnErrTellsWhetherAllAreStringsRow.holds Tryf.pinned (OpenSpec.ofChange fnErrTellsWhetherAllAreStringsSpec)

/-- ITS FALSE NEIGHBOUR: 'it returns false'. Refute it at one input. -/
def fnErrTellsWhetherAllAreStringsWrong : ChangeSpec := { name := "fnErrTellsWhetherAllAreStrings", vars := ["example.com/scoutwire/scoutwire/internal/rlp.ErrNotString", "example.com/scoutwire/scoutwire/internal/rlp.ErrTruncated", "example.com/scoutwire/scoutwire/internal/rlp.ErrNonCanonical"], fn := fun _ => fun
  | [d1, d2, g1, g2, g3] => { results := [.lit (.bool false)], args := [d1, d2], vars := [g1, g2, g3] }
  | _ => none }
def FnErrTellsWhetherAllAreStringsWrongFormAsk : Prop := fnErrTellsWhetherAllAreStringsRow.holds Tryf.pinned (OpenSpec.ofChange fnErrTellsWhetherAllAreStringsWrong)

/-- 'zzlaws_internal_rlp_b1.FnErrMixedScript': WHATEVER THE INPUT: true; the input reads as it did. -/
def fnErrMixedScriptSpec : ChangeSpec := { name := "fnErrMixedScript", vars := ["example.com/scoutwire/scoutwire/internal/rlp.ErrUintOverflow", "example.com/scoutwire/scoutwire/internal/rlp.ErrNonCanonical", "example.com/scoutwire/scoutwire/internal/rlp.ErrNotString", "example.com/scoutwire/scoutwire/internal/rlp.ErrTruncated"], fn := fun _ => fun
  | [d1, d2, d3, g1, g2, g3, g4] => { results := [.lit (.bool true)], args := [d1, d2, d3], vars := [g1, g2, g3, g4] }
  | _ => none }
def fnErrMixedScriptRow : OpenClaim := { program := "qxb6604339afmt", sum := "e282b4b02aea8ef3d6c41ef258b16b84adb840b198889ce251b381a77e01b4c4", func := "example.com/scoutwire/scoutwire/zzlaws_internal_rlp_b1.FnErrMixedScript", spec := "fnErrMixedScript", stops := ["fmt.errorf"], inPlace := ["fmt.errorf"], unfollowed := true, recurses := true, named := ["example.com/scoutwire/scoutwire/internal/rlp.ErrUintOverflow", "example.com/scoutwire/scoutwire/internal/rlp.ErrNonCanonical", "example.com/scoutwire/scoutwire/internal/rlp.ErrNotString", "example.com/scoutwire/scoutwire/internal/rlp.ErrTruncated"], ifaces := true, apart := false, laid := [("example.com/scoutwire/scoutwire/internal/rlp.ErrTruncated", laid_example_com_scoutwire_scoutwire_internal_rlp_ErrTruncated), ("example.com/scoutwire/scoutwire/internal/rlp.ErrNonCanonical", laid_example_com_scoutwire_scoutwire_internal_rlp_ErrNonCanonical), ("example.com/scoutwire/scoutwire/internal/rlp.ErrNotString", laid_example_com_scoutwire_scoutwire_internal_rlp_ErrNotString), ("example.com/scoutwire/scoutwire/internal/rlp.ErrUintOverflow", laid_example_com_scoutwire_scoutwire_internal_rlp_ErrUintOverflow)] }
/-- NO THEOREM (fmt's text is open here; it may be false): for the released tool's asking of the row's closed facts alone. THE STATEMENT IS 'FnErrMixedScriptToldSaid' (Qxb6604339aFmtCards.lean). -/
def FnErrMixedScriptFormAsk : Prop := fnErrMixedScriptRow.holds Tryf.pinned (OpenSpec.ofChange fnErrMixedScriptSpec)

/-- ITS FALSE NEIGHBOUR: 'it returns false'. Refute it at one input. -/
def fnErrMixedScriptWrong : ChangeSpec := { name := "fnErrMixedScript", vars := ["example.com/scoutwire/scoutwire/internal/rlp.ErrUintOverflow", "example.com/scoutwire/scoutwire/internal/rlp.ErrNonCanonical", "example.com/scoutwire/scoutwire/internal/rlp.ErrNotString", "example.com/scoutwire/scoutwire/internal/rlp.ErrTruncated"], fn := fun _ => fun
  | [d1, d2, d3, g1, g2, g3, g4] => { results := [.lit (.bool false)], args := [d1, d2, d3], vars := [g1, g2, g3, g4] }
  | _ => none }
def FnErrMixedScriptWrongFormAsk : Prop := fnErrMixedScriptRow.holds Tryf.pinned (OpenSpec.ofChange fnErrMixedScriptWrong)

/-- 'zzlaws_internal_rlp_b1.FnFailStopsTheScript': WHATEVER THE INPUT: true; the input reads as it did. -/
def fnFailStopsTheScriptSpec : ChangeSpec := { name := "fnFailStopsTheScript", vars := ["example.com/scoutwire/scoutwire/internal/rlp.ErrNonCanonical", "example.com/scoutwire/scoutwire/internal/rlp.ErrNotString", "example.com/scoutwire/scoutwire/internal/rlp.ErrTruncated"], fn := fun _ => fun
  | [d1, d2, d3, d4, g1, g2, g3] => { results := [.lit (.bool true)], args := [d1, d2, d3, d4], vars := [g1, g2, g3] }
  | _ => none }
def fnFailStopsTheScriptRow : OpenClaim := { program := "qxb6604339afmt", sum := "e282b4b02aea8ef3d6c41ef258b16b84adb840b198889ce251b381a77e01b4c4", func := "example.com/scoutwire/scoutwire/zzlaws_internal_rlp_b1.FnFailStopsTheScript", spec := "fnFailStopsTheScript", stops := ["fmt.errorf"], inPlace := ["fmt.errorf"], unfollowed := true, recurses := true, named := ["example.com/scoutwire/scoutwire/internal/rlp.ErrNonCanonical", "example.com/scoutwire/scoutwire/internal/rlp.ErrNotString", "example.com/scoutwire/scoutwire/internal/rlp.ErrTruncated"], ifaces := true, apart := false, laid := [("example.com/scoutwire/scoutwire/internal/rlp.ErrTruncated", laid_example_com_scoutwire_scoutwire_internal_rlp_ErrTruncated), ("example.com/scoutwire/scoutwire/internal/rlp.ErrNonCanonical", laid_example_com_scoutwire_scoutwire_internal_rlp_ErrNonCanonical), ("example.com/scoutwire/scoutwire/internal/rlp.ErrNotString", laid_example_com_scoutwire_scoutwire_internal_rlp_ErrNotString)] }
/-- NO THEOREM (fmt's text is open here; it may be false): for the released tool's asking of the row's closed facts alone. THE STATEMENT IS 'FnFailStopsTheScriptToldSaid' (Qxb6604339aFmtCards.lean). -/
def FnFailStopsTheScriptFormAsk : Prop := fnFailStopsTheScriptRow.holds Tryf.pinned (OpenSpec.ofChange fnFailStopsTheScriptSpec)

/-- ITS FALSE NEIGHBOUR: 'it returns false'. Refute it at one input. -/
def fnFailStopsTheScriptWrong : ChangeSpec := { name := "fnFailStopsTheScript", vars := ["example.com/scoutwire/scoutwire/internal/rlp.ErrNonCanonical", "example.com/scoutwire/scoutwire/internal/rlp.ErrNotString", "example.com/scoutwire/scoutwire/internal/rlp.ErrTruncated"], fn := fun _ => fun
  | [d1, d2, d3, d4, g1, g2, g3] => { results := [.lit (.bool false)], args := [d1, d2, d3, d4], vars := [g1, g2, g3] }
  | _ => none }
def FnFailStopsTheScriptWrongFormAsk : Prop := fnFailStopsTheScriptRow.holds Tryf.pinned (OpenSpec.ofChange fnFailStopsTheScriptWrong)

/-- 'zzlaws_internal_rlp_b1.FnFailFreezesAFreshReader': WHATEVER THE INPUT: true; the input reads as it did. -/
def fnFailFreezesAFreshReaderSpec : ChangeSpec := { name := "fnFailFreezesAFreshReader", vars := ["example.com/scoutwire/scoutwire/internal/rlp.ErrNonCanonical", "example.com/scoutwire/scoutwire/internal/rlp.ErrUintOverflow", "example.com/scoutwire/scoutwire/internal/rlp.ErrNotString", "example.com/scoutwire/scoutwire/internal/rlp.ErrTruncated"], fn := fun _ => fun
  | [d1, d2, g1, g2, g3, g4] => { results := [.lit (.bool true)], args := [d1, d2], vars := [g1, g2, g3, g4] }
  | _ => none }
def fnFailFreezesAFreshReaderRow : OpenClaim := { program := "qxb6604339afmt", sum := "e282b4b02aea8ef3d6c41ef258b16b84adb840b198889ce251b381a77e01b4c4", func := "example.com/scoutwire/scoutwire/zzlaws_internal_rlp_b1.FnFailFreezesAFreshReader", spec := "fnFailFreezesAFreshReader", stops := ["fmt.errorf"], inPlace := ["fmt.errorf"], unfollowed := true, recurses := true, named := ["example.com/scoutwire/scoutwire/internal/rlp.ErrNonCanonical", "example.com/scoutwire/scoutwire/internal/rlp.ErrUintOverflow", "example.com/scoutwire/scoutwire/internal/rlp.ErrNotString", "example.com/scoutwire/scoutwire/internal/rlp.ErrTruncated"], ifaces := true, apart := false, laid := [("example.com/scoutwire/scoutwire/internal/rlp.ErrTruncated", laid_example_com_scoutwire_scoutwire_internal_rlp_ErrTruncated), ("example.com/scoutwire/scoutwire/internal/rlp.ErrNonCanonical", laid_example_com_scoutwire_scoutwire_internal_rlp_ErrNonCanonical), ("example.com/scoutwire/scoutwire/internal/rlp.ErrNotString", laid_example_com_scoutwire_scoutwire_internal_rlp_ErrNotString), ("example.com/scoutwire/scoutwire/internal/rlp.ErrUintOverflow", laid_example_com_scoutwire_scoutwire_internal_rlp_ErrUintOverflow)] }
/-- NO THEOREM (fmt's text is open here; it may be false): for the released tool's asking of the row's closed facts alone. THE STATEMENT IS 'FnFailFreezesAFreshReaderToldSaid' (Qxb6604339aFmtCards.lean). -/
def FnFailFreezesAFreshReaderFormAsk : Prop := fnFailFreezesAFreshReaderRow.holds Tryf.pinned (OpenSpec.ofChange fnFailFreezesAFreshReaderSpec)

/-- ITS FALSE NEIGHBOUR: 'it returns false'. Refute it at one input. -/
def fnFailFreezesAFreshReaderWrong : ChangeSpec := { name := "fnFailFreezesAFreshReader", vars := ["example.com/scoutwire/scoutwire/internal/rlp.ErrNonCanonical", "example.com/scoutwire/scoutwire/internal/rlp.ErrUintOverflow", "example.com/scoutwire/scoutwire/internal/rlp.ErrNotString", "example.com/scoutwire/scoutwire/internal/rlp.ErrTruncated"], fn := fun _ => fun
  | [d1, d2, g1, g2, g3, g4] => { results := [.lit (.bool false)], args := [d1, d2], vars := [g1, g2, g3, g4] }
  | _ => none }
def FnFailFreezesAFreshReaderWrongFormAsk : Prop := fnFailFreezesAFreshReaderRow.holds Tryf.pinned (OpenSpec.ofChange fnFailFreezesAFreshReaderWrong)

end Rows
end Go.Proofs.Qxb6604339aFmt
