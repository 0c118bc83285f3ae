/-
  No cell of these rows narrows 'for every input' (looked for: loops, veiled, ifaces, maps, wideKeys, modest, calm, conditions, laid).
  DERIVED. THE GIVEN ROWS OF THIS SEAT. 9 by the template 'for every input the law returns true; each argument reads behind the call as it read before'; 0 by the template 'total and deterministic' (their statements: Qxb6000674aTotals.lean).
  GIVEN WITH THE SEED: the statements are not yours to turn. If you find one false, say at which input.
  Laid BY PROGRAM, IN A SANDBOX (cutbox-rows.mjs): the forced cells as the released guide's own fill.sh prints them over the translation c6452995ee05e30d… (all of the seat's roots in one cut). By AI agents, Wed Nov 11 2026. No macro, syntax, notation, axiom, sorry.
-/
import Derived.Test.Qxb6000674aChecked
import GoSem.Claim
import GoSem.ClaimJoined
import GoSem.ClaimMapViews
import Derived.JoinedTies
import Derived.KernelRfl
namespace Go.Proofs.Qxb6000674a
/- THE CELL 'sum', in the pinned program and in every row, IS THE sha256 OF THE DUMP (.gsa) THAT Qxb6000674aProg.lean LOADS. Nothing in Lean hashes anything: it is a label: what it is worth is what the hold of that sum in a sandbox is worth. -/
noncomputable def Try.pinned : Pinned := { name := "qxb6000674a", sum := "c6452995ee05e30d42bfa848a71cd24c199ce57f7e46d4b17d802b13dfb1f29b", checked := Try.checked }
namespace Rows
def none {H : Type} : Left H := { results := [], args := [] }

/-- 'zzlaws_internal_format_b1.FnIsJSONNumberMatchesAutomaton': WHATEVER THE INPUT: true; the input reads as it did. -/
def fnIsJSONNumberMatchesAutomatonSpec : ChangeSpec := { name := "fnIsJSONNumberMatchesAutomaton", fn := fun _ => fun
  | [d] => { results := [.lit (.bool true)], args := [d] }
  | _ => none }
def fnIsJSONNumberMatchesAutomatonRow : OpenClaim := { program := "qxb6000674a", sum := "c6452995ee05e30d42bfa848a71cd24c199ce57f7e46d4b17d802b13dfb1f29b", func := "example.com/geryon/geryon/zzlaws_internal_format_b1.FnIsJSONNumberMatchesAutomaton", spec := "fnIsJSONNumberMatchesAutomaton", apart := false }
def FnIsJSONNumberMatchesAutomatonSaid : Prop := fnIsJSONNumberMatchesAutomatonRow.holds Try.pinned (OpenSpec.ofChange fnIsJSONNumberMatchesAutomatonSpec)

/-- ITS FALSE NEIGHBOUR: 'it returns false'. Refute it at one input. -/
def fnIsJSONNumberMatchesAutomatonWrong : ChangeSpec := { name := "fnIsJSONNumberMatchesAutomaton", fn := fun _ => fun
  | [d] => { results := [.lit (.bool false)], args := [d] }
  | _ => none }
def FnIsJSONNumberMatchesAutomatonWrongFalsely : Prop := fnIsJSONNumberMatchesAutomatonRow.holds Try.pinned (OpenSpec.ofChange fnIsJSONNumberMatchesAutomatonWrong)

/-- 'zzlaws_internal_format_b1.FnIsJSONNumberMinusSignIsTransparent': WHATEVER THE INPUT: true; the input reads as it did. -/
def fnIsJSONNumberMinusSignIsTransparentSpec : ChangeSpec := { name := "fnIsJSONNumberMinusSignIsTransparent", fn := fun _ => fun
  | [d] => { results := [.lit (.bool true)], args := [d] }
  | _ => none }
def fnIsJSONNumberMinusSignIsTransparentRow : OpenClaim := { program := "qxb6000674a", sum := "c6452995ee05e30d42bfa848a71cd24c199ce57f7e46d4b17d802b13dfb1f29b", func := "example.com/geryon/geryon/zzlaws_internal_format_b1.FnIsJSONNumberMinusSignIsTransparent", spec := "fnIsJSONNumberMinusSignIsTransparent", apart := false }
def FnIsJSONNumberMinusSignIsTransparentSaid : Prop := fnIsJSONNumberMinusSignIsTransparentRow.holds Try.pinned (OpenSpec.ofChange fnIsJSONNumberMinusSignIsTransparentSpec)

/-- ITS FALSE NEIGHBOUR: 'it returns false'. Refute it at one input. -/
def fnIsJSONNumberMinusSignIsTransparentWrong : ChangeSpec := { name := "fnIsJSONNumberMinusSignIsTransparent", fn := fun _ => fun
  | [d] => { results := [.lit (.bool false)], args := [d] }
  | _ => none }
def FnIsJSONNumberMinusSignIsTransparentWrongFalsely : Prop := fnIsJSONNumberMinusSignIsTransparentRow.holds Try.pinned (OpenSpec.ofChange fnIsJSONNumberMinusSignIsTransparentWrong)

/-- 'zzlaws_internal_format_b1.FnIsJSONNumberRefusesLeadingZero': WHATEVER THE INPUT: true; the input reads as it did. -/
def fnIsJSONNumberRefusesLeadingZeroSpec : ChangeSpec := { name := "fnIsJSONNumberRefusesLeadingZero", fn := fun _ => fun
  | [d1, d2, d3] => { results := [.lit (.bool true)], args := [d1, d2, d3] }
  | _ => none }
def fnIsJSONNumberRefusesLeadingZeroRow : OpenClaim := { program := "qxb6000674a", sum := "c6452995ee05e30d42bfa848a71cd24c199ce57f7e46d4b17d802b13dfb1f29b", func := "example.com/geryon/geryon/zzlaws_internal_format_b1.FnIsJSONNumberRefusesLeadingZero", spec := "fnIsJSONNumberRefusesLeadingZero", apart := false }
def FnIsJSONNumberRefusesLeadingZeroSaid : Prop := fnIsJSONNumberRefusesLeadingZeroRow.holds Try.pinned (OpenSpec.ofChange fnIsJSONNumberRefusesLeadingZeroSpec)

/-- ITS FALSE NEIGHBOUR: 'it returns false'. Refute it at one input. -/
def fnIsJSONNumberRefusesLeadingZeroWrong : ChangeSpec := { name := "fnIsJSONNumberRefusesLeadingZero", fn := fun _ => fun
  | [d1, d2, d3] => { results := [.lit (.bool false)], args := [d1, d2, d3] }
  | _ => none }
def FnIsJSONNumberRefusesLeadingZeroWrongFalsely : Prop := fnIsJSONNumberRefusesLeadingZeroRow.holds Try.pinned (OpenSpec.ofChange fnIsJSONNumberRefusesLeadingZeroWrong)

/-- 'zzlaws_internal_format_b1.FnAppendStringRoundTrip': WHATEVER THE INPUT: true; the input reads as it did. -/
def fnAppendStringRoundTripSpec : ChangeSpec := { name := "fnAppendStringRoundTrip", fn := fun _ => fun
  | [d] => { results := [.lit (.bool true)], args := [d] }
  | _ => none }
def fnAppendStringRoundTripRow : OpenClaim := { program := "qxb6000674a", sum := "c6452995ee05e30d42bfa848a71cd24c199ce57f7e46d4b17d802b13dfb1f29b", func := "example.com/geryon/geryon/zzlaws_internal_format_b1.FnAppendStringRoundTrip", spec := "fnAppendStringRoundTrip", apart := false }
def FnAppendStringRoundTripSaid : Prop := fnAppendStringRoundTripRow.holds Try.pinned (OpenSpec.ofChange fnAppendStringRoundTripSpec)

/-- ITS FALSE NEIGHBOUR: 'it returns false'. Refute it at one input. -/
def fnAppendStringRoundTripWrong : ChangeSpec := { name := "fnAppendStringRoundTrip", fn := fun _ => fun
  | [d] => { results := [.lit (.bool false)], args := [d] }
  | _ => none }
def FnAppendStringRoundTripWrongFalsely : Prop := fnAppendStringRoundTripRow.holds Try.pinned (OpenSpec.ofChange fnAppendStringRoundTripWrong)

/-- 'zzlaws_internal_format_b1.FnAppendStringKeepsBufferAndAppendsAlone': WHATEVER THE INPUT: true; the input reads as it did. -/
def fnAppendStringKeepsBufferAndAppendsAloneSpec : ChangeSpec := { name := "fnAppendStringKeepsBufferAndAppendsAlone", fn := fun _ => fun
  | [d1, d2] => { results := [.lit (.bool true)], args := [d1, d2] }
  | _ => none }
def fnAppendStringKeepsBufferAndAppendsAloneRow : OpenClaim := { program := "qxb6000674a", sum := "c6452995ee05e30d42bfa848a71cd24c199ce57f7e46d4b17d802b13dfb1f29b", func := "example.com/geryon/geryon/zzlaws_internal_format_b1.FnAppendStringKeepsBufferAndAppendsAlone", spec := "fnAppendStringKeepsBufferAndAppendsAlone", apart := false }
def FnAppendStringKeepsBufferAndAppendsAloneSaid : Prop := fnAppendStringKeepsBufferAndAppendsAloneRow.holds Try.pinned (OpenSpec.ofChange fnAppendStringKeepsBufferAndAppendsAloneSpec)

/-- ITS FALSE NEIGHBOUR: 'it returns false'. Refute it at one input. -/
def fnAppendStringKeepsBufferAndAppendsAloneWrong : ChangeSpec := { name := "fnAppendStringKeepsBufferAndAppendsAlone", fn := fun _ => fun
  | [d1, d2] => { results := [.lit (.bool false)], args := [d1, d2] }
  | _ => none }
def FnAppendStringKeepsBufferAndAppendsAloneWrongFalsely : Prop := fnAppendStringKeepsBufferAndAppendsAloneRow.holds Try.pinned (OpenSpec.ofChange fnAppendStringKeepsBufferAndAppendsAloneWrong)

/-- 'zzlaws_internal_format_b1.FnAppendStringLengthBounds': WHATEVER THE INPUT: true; the input reads as it did. -/
def fnAppendStringLengthBoundsSpec : ChangeSpec := { name := "fnAppendStringLengthBounds", fn := fun _ => fun
  | [d] => { results := [.lit (.bool true)], args := [d] }
  | _ => none }
def fnAppendStringLengthBoundsRow : OpenClaim := { program := "qxb6000674a", sum := "c6452995ee05e30d42bfa848a71cd24c199ce57f7e46d4b17d802b13dfb1f29b", func := "example.com/geryon/geryon/zzlaws_internal_format_b1.FnAppendStringLengthBounds", spec := "fnAppendStringLengthBounds", apart := false }
def FnAppendStringLengthBoundsSaid : Prop := fnAppendStringLengthBoundsRow.holds Try.pinned (OpenSpec.ofChange fnAppendStringLengthBoundsSpec)

/-- ITS FALSE NEIGHBOUR: 'it returns false'. Refute it at one input. -/
def fnAppendStringLengthBoundsWrong : ChangeSpec := { name := "fnAppendStringLengthBounds", fn := fun _ => fun
  | [d] => { results := [.lit (.bool false)], args := [d] }
  | _ => none }
def FnAppendStringLengthBoundsWrongFalsely : Prop := fnAppendStringLengthBoundsRow.holds Try.pinned (OpenSpec.ofChange fnAppendStringLengthBoundsWrong)

/-- 'zzlaws_internal_format_b1.FnEscapeTagRoundTrip': WHATEVER THE INPUT: true; the input reads as it did. -/
def fnEscapeTagRoundTripSpec : ChangeSpec := { name := "fnEscapeTagRoundTrip", fn := fun _ => fun
  | [d] => { results := [.lit (.bool true)], args := [d] }
  | _ => none }
def fnEscapeTagRoundTripRow : OpenClaim := { program := "qxb6000674a", sum := "c6452995ee05e30d42bfa848a71cd24c199ce57f7e46d4b17d802b13dfb1f29b", func := "example.com/geryon/geryon/zzlaws_internal_format_b1.FnEscapeTagRoundTrip", spec := "fnEscapeTagRoundTrip", inPlace := ["internal/bytealg.IndexByteString", "internal/abi.NoEscape"], apart := false }
def FnEscapeTagRoundTripSaid : Prop := fnEscapeTagRoundTripRow.holds Try.pinned (OpenSpec.ofChange fnEscapeTagRoundTripSpec)

/-- ITS FALSE NEIGHBOUR: 'it returns false'. Refute it at one input. -/
def fnEscapeTagRoundTripWrong : ChangeSpec := { name := "fnEscapeTagRoundTrip", fn := fun _ => fun
  | [d] => { results := [.lit (.bool false)], args := [d] }
  | _ => none }
def FnEscapeTagRoundTripWrongFalsely : Prop := fnEscapeTagRoundTripRow.holds Try.pinned (OpenSpec.ofChange fnEscapeTagRoundTripWrong)

/-- 'zzlaws_internal_format_b1.FnEscapeTagSplitsOverConcatenation': WHATEVER THE INPUT: true; the input reads as it did. -/
def fnEscapeTagSplitsOverConcatenationSpec : ChangeSpec := { name := "fnEscapeTagSplitsOverConcatenation", fn := fun _ => fun
  | [d1, d2] => { results := [.lit (.bool true)], args := [d1, d2] }
  | _ => none }
def fnEscapeTagSplitsOverConcatenationRow : OpenClaim := { program := "qxb6000674a", sum := "c6452995ee05e30d42bfa848a71cd24c199ce57f7e46d4b17d802b13dfb1f29b", func := "example.com/geryon/geryon/zzlaws_internal_format_b1.FnEscapeTagSplitsOverConcatenation", spec := "fnEscapeTagSplitsOverConcatenation", inPlace := ["internal/bytealg.IndexByteString", "internal/abi.NoEscape"], apart := false }
def FnEscapeTagSplitsOverConcatenationSaid : Prop := fnEscapeTagSplitsOverConcatenationRow.holds Try.pinned (OpenSpec.ofChange fnEscapeTagSplitsOverConcatenationSpec)

/-- ITS FALSE NEIGHBOUR: 'it returns false'. Refute it at one input. -/
def fnEscapeTagSplitsOverConcatenationWrong : ChangeSpec := { name := "fnEscapeTagSplitsOverConcatenation", fn := fun _ => fun
  | [d1, d2] => { results := [.lit (.bool false)], args := [d1, d2] }
  | _ => none }
def FnEscapeTagSplitsOverConcatenationWrongFalsely : Prop := fnEscapeTagSplitsOverConcatenationRow.holds Try.pinned (OpenSpec.ofChange fnEscapeTagSplitsOverConcatenationWrong)

/-- 'zzlaws_internal_format_b1.FnEscapeTagReEscapesOnlyPercent': WHATEVER THE INPUT: true; the input reads as it did. -/
def fnEscapeTagReEscapesOnlyPercentSpec : ChangeSpec := { name := "fnEscapeTagReEscapesOnlyPercent", fn := fun _ => fun
  | [d] => { results := [.lit (.bool true)], args := [d] }
  | _ => none }
def fnEscapeTagReEscapesOnlyPercentRow : OpenClaim := { program := "qxb6000674a", sum := "c6452995ee05e30d42bfa848a71cd24c199ce57f7e46d4b17d802b13dfb1f29b", func := "example.com/geryon/geryon/zzlaws_internal_format_b1.FnEscapeTagReEscapesOnlyPercent", spec := "fnEscapeTagReEscapesOnlyPercent", inPlace := ["internal/bytealg.IndexByteString", "internal/abi.NoEscape"], apart := false }
def FnEscapeTagReEscapesOnlyPercentSaid : Prop := fnEscapeTagReEscapesOnlyPercentRow.holds Try.pinned (OpenSpec.ofChange fnEscapeTagReEscapesOnlyPercentSpec)

/-- ITS FALSE NEIGHBOUR: 'it returns false'. Refute it at one input. -/
def fnEscapeTagReEscapesOnlyPercentWrong : ChangeSpec := { name := "fnEscapeTagReEscapesOnlyPercent", fn := fun _ => fun
  | [d] => { results := [.lit (.bool false)], args := [d] }
  | _ => none }
def FnEscapeTagReEscapesOnlyPercentWrongFalsely : Prop := fnEscapeTagReEscapesOnlyPercentRow.holds Try.pinned (OpenSpec.ofChange fnEscapeTagReEscapesOnlyPercentWrong)

end Rows
end Go.Proofs.Qxb6000674a
