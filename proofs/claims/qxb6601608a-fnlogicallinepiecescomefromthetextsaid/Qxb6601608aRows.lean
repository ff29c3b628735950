/-
  No cell of these rows narrows 'for every input' (looked for: loops, veiled, ifaces, maps, wideKeys, modest, calm, conditions, laid).
  DERIVED. THE GIVEN ROWS OF THIS SEAT. 8 by the template 'for every input the law returns true; each argument reads behind the call as it read before'; 0 by the template 'total and deterministic' (their statements: Qxb6601608aTotals.lean).
  GIVEN WITH THE SEED: the statements are not yours to turn. If you find one false, say at which input.
  Laid BY PROGRAM, IN A SANDBOX (cutbox-rows.mjs): the forced cells as the released guide's own fill.sh prints them over the translation f07e4e94fcc9c23b… (all of the seat's roots in one cut). By AI agents, Wed Nov 11 2026. No macro, syntax, notation, axiom, sorry.
-/
import Derived.Test.Qxb6601608aChecked
import GoSem.Claim
import GoSem.ClaimJoined
import GoSem.ClaimMapViews
import Derived.JoinedTies
import Derived.KernelRfl
namespace Go.Proofs.Qxb6601608a
/- THE CELL 'sum', in the pinned program and in every row, IS THE sha256 OF THE DUMP (.gsa) THAT Qxb6601608aProg.lean LOADS. Nothing in Lean hashes anything: it is a label: what it is worth is what the hold of that sum in a sandbox is worth. -/
noncomputable def Try.pinned : Pinned := { name := "qxb6601608a", sum := "f07e4e94fcc9c23bcd2e65d30ee5fa0f444b7b18178b0d1c5c76eb4375f191ff", checked := Try.checked }
namespace Rows
def none {H : Type} : Left H := { results := [], args := [] }

/-- 'zzlaws_internal_properties_b1.FnHex4MatchesModel': WHATEVER THE INPUT: true; the input reads as it did. -/
def fnHex4MatchesModelSpec : ChangeSpec := { name := "fnHex4MatchesModel", fn := fun _ => fun
  | [d] => { results := [.lit (.bool true)], args := [d] }
  | _ => none }
def fnHex4MatchesModelRow : OpenClaim := { program := "qxb6601608a", sum := "f07e4e94fcc9c23bcd2e65d30ee5fa0f444b7b18178b0d1c5c76eb4375f191ff", func := "example.com/libvar/libvar/zzlaws_internal_properties_b1.FnHex4MatchesModel", spec := "fnHex4MatchesModel", apart := false }
def FnHex4MatchesModelSaid : Prop := fnHex4MatchesModelRow.holds Try.pinned (OpenSpec.ofChange fnHex4MatchesModelSpec)

/-- ITS FALSE NEIGHBOUR: 'it returns false'. Refute it at one input. -/
def fnHex4MatchesModelWrong : ChangeSpec := { name := "fnHex4MatchesModel", fn := fun _ => fun
  | [d] => { results := [.lit (.bool false)], args := [d] }
  | _ => none }
def FnHex4MatchesModelWrongFalsely : Prop := fnHex4MatchesModelRow.holds Try.pinned (OpenSpec.ofChange fnHex4MatchesModelWrong)

/-- 'zzlaws_internal_properties_b1.FnHex4EncodeRoundTrip': WHATEVER THE INPUT: true; the input reads as it did. -/
def fnHex4EncodeRoundTripSpec : ChangeSpec := { name := "fnHex4EncodeRoundTrip", fn := fun _ => fun
  | [d1, d2, d3] => { results := [.lit (.bool true)], args := [d1, d2, d3] }
  | _ => none }
def fnHex4EncodeRoundTripRow : OpenClaim := { program := "qxb6601608a", sum := "f07e4e94fcc9c23bcd2e65d30ee5fa0f444b7b18178b0d1c5c76eb4375f191ff", func := "example.com/libvar/libvar/zzlaws_internal_properties_b1.FnHex4EncodeRoundTrip", spec := "fnHex4EncodeRoundTrip", apart := false }
def FnHex4EncodeRoundTripSaid : Prop := fnHex4EncodeRoundTripRow.holds Try.pinned (OpenSpec.ofChange fnHex4EncodeRoundTripSpec)

/-- ITS FALSE NEIGHBOUR: 'it returns false'. Refute it at one input. -/
def fnHex4EncodeRoundTripWrong : ChangeSpec := { name := "fnHex4EncodeRoundTrip", fn := fun _ => fun
  | [d1, d2, d3] => { results := [.lit (.bool false)], args := [d1, d2, d3] }
  | _ => none }
def FnHex4EncodeRoundTripWrongFalsely : Prop := fnHex4EncodeRoundTripRow.holds Try.pinned (OpenSpec.ofChange fnHex4EncodeRoundTripWrong)

/-- 'zzlaws_internal_properties_b1.FnHex4ReadsOnlyItsSixBytes': WHATEVER THE INPUT: true; the input reads as it did. -/
def fnHex4ReadsOnlyItsSixBytesSpec : ChangeSpec := { name := "fnHex4ReadsOnlyItsSixBytes", fn := fun _ => fun
  | [d1, d2] => { results := [.lit (.bool true)], args := [d1, d2] }
  | _ => none }
def fnHex4ReadsOnlyItsSixBytesRow : OpenClaim := { program := "qxb6601608a", sum := "f07e4e94fcc9c23bcd2e65d30ee5fa0f444b7b18178b0d1c5c76eb4375f191ff", func := "example.com/libvar/libvar/zzlaws_internal_properties_b1.FnHex4ReadsOnlyItsSixBytes", spec := "fnHex4ReadsOnlyItsSixBytes", apart := false }
def FnHex4ReadsOnlyItsSixBytesSaid : Prop := fnHex4ReadsOnlyItsSixBytesRow.holds Try.pinned (OpenSpec.ofChange fnHex4ReadsOnlyItsSixBytesSpec)

/-- ITS FALSE NEIGHBOUR: 'it returns false'. Refute it at one input. -/
def fnHex4ReadsOnlyItsSixBytesWrong : ChangeSpec := { name := "fnHex4ReadsOnlyItsSixBytes", fn := fun _ => fun
  | [d1, d2] => { results := [.lit (.bool false)], args := [d1, d2] }
  | _ => none }
def FnHex4ReadsOnlyItsSixBytesWrongFalsely : Prop := fnHex4ReadsOnlyItsSixBytesRow.holds Try.pinned (OpenSpec.ofChange fnHex4ReadsOnlyItsSixBytesWrong)

/-- 'zzlaws_internal_properties_b1.FnNextLineMatchesModel': WHATEVER THE INPUT: true; the input reads as it did. -/
def fnNextLineMatchesModelSpec : ChangeSpec := { name := "fnNextLineMatchesModel", fn := fun _ => fun
  | [d1, d2] => { results := [.lit (.bool true)], args := [d1, d2] }
  | _ => none }
def fnNextLineMatchesModelRow : OpenClaim := { program := "qxb6601608a", sum := "f07e4e94fcc9c23bcd2e65d30ee5fa0f444b7b18178b0d1c5c76eb4375f191ff", func := "example.com/libvar/libvar/zzlaws_internal_properties_b1.FnNextLineMatchesModel", spec := "fnNextLineMatchesModel", inPlace := ["internal/bytealg.IndexByteString", "internal/bytealg.IndexString"], named := ["internal/bytealg.MaxLen"], apart := false }
def FnNextLineMatchesModelSaid : Prop := fnNextLineMatchesModelRow.holds Try.pinned (OpenSpec.ofChange fnNextLineMatchesModelSpec)

/-- ITS FALSE NEIGHBOUR: 'it returns false'. Refute it at one input. -/
def fnNextLineMatchesModelWrong : ChangeSpec := { name := "fnNextLineMatchesModel", fn := fun _ => fun
  | [d1, d2] => { results := [.lit (.bool false)], args := [d1, d2] }
  | _ => none }
def FnNextLineMatchesModelWrongFalsely : Prop := fnNextLineMatchesModelRow.holds Try.pinned (OpenSpec.ofChange fnNextLineMatchesModelWrong)

/-- 'zzlaws_internal_properties_b1.FnNextLineLandsOnContentAndIsIdempotent': WHATEVER THE INPUT: true; the input reads as it did. -/
def fnNextLineLandsOnContentAndIsIdempotentSpec : ChangeSpec := { name := "fnNextLineLandsOnContentAndIsIdempotent", fn := fun _ => fun
  | [d1, d2] => { results := [.lit (.bool true)], args := [d1, d2] }
  | _ => none }
def fnNextLineLandsOnContentAndIsIdempotentRow : OpenClaim := { program := "qxb6601608a", sum := "f07e4e94fcc9c23bcd2e65d30ee5fa0f444b7b18178b0d1c5c76eb4375f191ff", func := "example.com/libvar/libvar/zzlaws_internal_properties_b1.FnNextLineLandsOnContentAndIsIdempotent", spec := "fnNextLineLandsOnContentAndIsIdempotent", inPlace := ["internal/bytealg.IndexByteString", "internal/bytealg.IndexString"], named := ["internal/bytealg.MaxLen"], apart := false }
def FnNextLineLandsOnContentAndIsIdempotentSaid : Prop := fnNextLineLandsOnContentAndIsIdempotentRow.holds Try.pinned (OpenSpec.ofChange fnNextLineLandsOnContentAndIsIdempotentSpec)

/-- ITS FALSE NEIGHBOUR: 'it returns false'. Refute it at one input. -/
def fnNextLineLandsOnContentAndIsIdempotentWrong : ChangeSpec := { name := "fnNextLineLandsOnContentAndIsIdempotent", fn := fun _ => fun
  | [d1, d2] => { results := [.lit (.bool false)], args := [d1, d2] }
  | _ => none }
def FnNextLineLandsOnContentAndIsIdempotentWrongFalsely : Prop := fnNextLineLandsOnContentAndIsIdempotentRow.holds Try.pinned (OpenSpec.ofChange fnNextLineLandsOnContentAndIsIdempotentWrong)

/-- 'zzlaws_internal_properties_b1.FnLogicalLineMatchesModel': WHATEVER THE INPUT: true; the input reads as it did. -/
def fnLogicalLineMatchesModelSpec : ChangeSpec := { name := "fnLogicalLineMatchesModel", fn := fun _ => fun
  | [d1, d2, d3] => { results := [.lit (.bool true)], args := [d1, d2, d3] }
  | _ => none }
def fnLogicalLineMatchesModelRow : OpenClaim := { program := "qxb6601608a", sum := "f07e4e94fcc9c23bcd2e65d30ee5fa0f444b7b18178b0d1c5c76eb4375f191ff", func := "example.com/libvar/libvar/zzlaws_internal_properties_b1.FnLogicalLineMatchesModel", spec := "fnLogicalLineMatchesModel", inPlace := ["internal/bytealg.IndexByteString", "internal/bytealg.IndexString"], named := ["internal/bytealg.MaxLen"], apart := false }
def FnLogicalLineMatchesModelSaid : Prop := fnLogicalLineMatchesModelRow.holds Try.pinned (OpenSpec.ofChange fnLogicalLineMatchesModelSpec)

/-- ITS FALSE NEIGHBOUR: 'it returns false'. Refute it at one input. -/
def fnLogicalLineMatchesModelWrong : ChangeSpec := { name := "fnLogicalLineMatchesModel", fn := fun _ => fun
  | [d1, d2, d3] => { results := [.lit (.bool false)], args := [d1, d2, d3] }
  | _ => none }
def FnLogicalLineMatchesModelWrongFalsely : Prop := fnLogicalLineMatchesModelRow.holds Try.pinned (OpenSpec.ofChange fnLogicalLineMatchesModelWrong)

/-- 'zzlaws_internal_properties_b1.FnLogicalLinePiecesComeFromTheText': WHATEVER THE INPUT: true; the input reads as it did. -/
def fnLogicalLinePiecesComeFromTheTextSpec : ChangeSpec := { name := "fnLogicalLinePiecesComeFromTheText", fn := fun _ => fun
  | [d1, d2] => { results := [.lit (.bool true)], args := [d1, d2] }
  | _ => none }
def fnLogicalLinePiecesComeFromTheTextRow : OpenClaim := { program := "qxb6601608a", sum := "f07e4e94fcc9c23bcd2e65d30ee5fa0f444b7b18178b0d1c5c76eb4375f191ff", func := "example.com/libvar/libvar/zzlaws_internal_properties_b1.FnLogicalLinePiecesComeFromTheText", spec := "fnLogicalLinePiecesComeFromTheText", inPlace := ["internal/bytealg.IndexByteString", "internal/bytealg.IndexString"], named := ["internal/bytealg.MaxLen"], apart := false }
def FnLogicalLinePiecesComeFromTheTextSaid : Prop := fnLogicalLinePiecesComeFromTheTextRow.holds Try.pinned (OpenSpec.ofChange fnLogicalLinePiecesComeFromTheTextSpec)

/-- ITS FALSE NEIGHBOUR: 'it returns false'. Refute it at one input. -/
def fnLogicalLinePiecesComeFromTheTextWrong : ChangeSpec := { name := "fnLogicalLinePiecesComeFromTheText", fn := fun _ => fun
  | [d1, d2] => { results := [.lit (.bool false)], args := [d1, d2] }
  | _ => none }
def FnLogicalLinePiecesComeFromTheTextWrongFalsely : Prop := fnLogicalLinePiecesComeFromTheTextRow.holds Try.pinned (OpenSpec.ofChange fnLogicalLinePiecesComeFromTheTextWrong)

/-- 'zzlaws_internal_properties_b1.FnScanOfTextAdvancesToItsEnd': WHATEVER THE INPUT: true; the input reads as it did. -/
def fnScanOfTextAdvancesToItsEndSpec : ChangeSpec := { name := "fnScanOfTextAdvancesToItsEnd", fn := fun _ => fun
  | [d] => { results := [.lit (.bool true)], args := [d] }
  | _ => none }
def fnScanOfTextAdvancesToItsEndRow : OpenClaim := { program := "qxb6601608a", sum := "f07e4e94fcc9c23bcd2e65d30ee5fa0f444b7b18178b0d1c5c76eb4375f191ff", func := "example.com/libvar/libvar/zzlaws_internal_properties_b1.FnScanOfTextAdvancesToItsEnd", spec := "fnScanOfTextAdvancesToItsEnd", inPlace := ["internal/bytealg.IndexByteString", "internal/bytealg.IndexString"], named := ["internal/bytealg.MaxLen"], apart := false }
def FnScanOfTextAdvancesToItsEndSaid : Prop := fnScanOfTextAdvancesToItsEndRow.holds Try.pinned (OpenSpec.ofChange fnScanOfTextAdvancesToItsEndSpec)

/-- ITS FALSE NEIGHBOUR: 'it returns false'. Refute it at one input. -/
def fnScanOfTextAdvancesToItsEndWrong : ChangeSpec := { name := "fnScanOfTextAdvancesToItsEnd", fn := fun _ => fun
  | [d] => { results := [.lit (.bool false)], args := [d] }
  | _ => none }
def FnScanOfTextAdvancesToItsEndWrongFalsely : Prop := fnScanOfTextAdvancesToItsEndRow.holds Try.pinned (OpenSpec.ofChange fnScanOfTextAdvancesToItsEndWrong)

end Rows
end Go.Proofs.Qxb6601608a
