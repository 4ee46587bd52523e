/-
  No cell of these rows narrows 'for every input' (looked for: loops, veiled, ifaces, maps, wideKeys, modest, calm, conditions, laid).
  DERIVED. THE GIVEN ROWS OF THIS SEAT. 5 by the template 'for every input the law returns true; each argument reads behind the call as it read before'; 0 by the template 'total and deterministic' (their statements: Qxb6000792aTotals.lean).
  GIVEN WITH THE SEED: the statements are not yours to turn. If you find one false, say at which input.
  Laid BY PROGRAM, IN A SANDBOX (cutbox-rows.mjs): the forced cells as the released guide's own fill.sh prints them over the translation e9611e86cd57d96d… (all of the seat's roots in one cut). By AI agents, Wed Nov 11 2026. No macro, syntax, notation, axiom, sorry.
-/
import Derived.Test.Qxb6000792aChecked
import GoSem.Claim
import GoSem.ClaimJoined
import GoSem.ClaimMapViews
import Derived.JoinedTies
import Derived.KernelRfl
namespace Go.Proofs.Qxb6000792a
/- THE CELL 'sum', in the pinned program and in every row, IS THE sha256 OF THE DUMP (.gsa) THAT Qxb6000792aProg.lean LOADS. Nothing in Lean hashes anything: it is a label: what it is worth is what the hold of that sum in a sandbox is worth. -/
noncomputable def Try.pinned : Pinned := { name := "qxb6000792a", sum := "e9611e86cd57d96d27cf0b71d0b10efc2ddaace38c7498bbb108e9efe66dc528", checked := Try.checked }
namespace Rows
def none {H : Type} : Left H := { results := [], args := [] }

/-- 'zzlaws_root_b1.FnPlainStringsPrefixFreeAndCanonical': WHATEVER THE INPUT: true; the input reads as it did. -/
def fnPlainStringsPrefixFreeAndCanonicalSpec : ChangeSpec := { name := "fnPlainStringsPrefixFreeAndCanonical", fn := fun _ => fun
  | [d1, d2] => { results := [.lit (.bool true)], args := [d1, d2] }
  | _ => none }
def fnPlainStringsPrefixFreeAndCanonicalRow : OpenClaim := { program := "qxb6000792a", sum := "e9611e86cd57d96d27cf0b71d0b10efc2ddaace38c7498bbb108e9efe66dc528", func := "example.com/querysieve/querysieve/zzlaws_root_b1.FnPlainStringsPrefixFreeAndCanonical", spec := "fnPlainStringsPrefixFreeAndCanonical", inPlace := ["internal/bytealg.IndexByteString"], apart := false }
def FnPlainStringsPrefixFreeAndCanonicalSaid : Prop := fnPlainStringsPrefixFreeAndCanonicalRow.holds Try.pinned (OpenSpec.ofChange fnPlainStringsPrefixFreeAndCanonicalSpec)

/-- ITS FALSE NEIGHBOUR: 'it returns false'. Refute it at one input. -/
def fnPlainStringsPrefixFreeAndCanonicalWrong : ChangeSpec := { name := "fnPlainStringsPrefixFreeAndCanonical", fn := fun _ => fun
  | [d1, d2] => { results := [.lit (.bool false)], args := [d1, d2] }
  | _ => none }
def FnPlainStringsPrefixFreeAndCanonicalWrongFalsely : Prop := fnPlainStringsPrefixFreeAndCanonicalRow.holds Try.pinned (OpenSpec.ofChange fnPlainStringsPrefixFreeAndCanonicalWrong)

/-- 'zzlaws_root_b1.FnPlainStringsRefusesStrayBytes': WHATEVER THE INPUT: true; the input reads as it did. -/
def fnPlainStringsRefusesStrayBytesSpec : ChangeSpec := { name := "fnPlainStringsRefusesStrayBytes", fn := fun _ => fun
  | [d1, d2] => { results := [.lit (.bool true)], args := [d1, d2] }
  | _ => none }
def fnPlainStringsRefusesStrayBytesRow : OpenClaim := { program := "qxb6000792a", sum := "e9611e86cd57d96d27cf0b71d0b10efc2ddaace38c7498bbb108e9efe66dc528", func := "example.com/querysieve/querysieve/zzlaws_root_b1.FnPlainStringsRefusesStrayBytes", spec := "fnPlainStringsRefusesStrayBytes", inPlace := ["internal/bytealg.IndexByteString"], apart := false }
def FnPlainStringsRefusesStrayBytesSaid : Prop := fnPlainStringsRefusesStrayBytesRow.holds Try.pinned (OpenSpec.ofChange fnPlainStringsRefusesStrayBytesSpec)

/-- ITS FALSE NEIGHBOUR: 'it returns false'. Refute it at one input. -/
def fnPlainStringsRefusesStrayBytesWrong : ChangeSpec := { name := "fnPlainStringsRefusesStrayBytes", fn := fun _ => fun
  | [d1, d2] => { results := [.lit (.bool false)], args := [d1, d2] }
  | _ => none }
def FnPlainStringsRefusesStrayBytesWrongFalsely : Prop := fnPlainStringsRefusesStrayBytesRow.holds Try.pinned (OpenSpec.ofChange fnPlainStringsRefusesStrayBytesWrong)

/-- 'zzlaws_root_b1.FnPostgresDollarTokenShape': WHATEVER THE INPUT: true; the input reads as it did. -/
def fnPostgresDollarTokenShapeSpec : ChangeSpec := { name := "fnPostgresDollarTokenShape", fn := fun _ => fun
  | [d1, d2] => { results := [.lit (.bool true)], args := [d1, d2] }
  | _ => none }
def fnPostgresDollarTokenShapeRow : OpenClaim := { program := "qxb6000792a", sum := "e9611e86cd57d96d27cf0b71d0b10efc2ddaace38c7498bbb108e9efe66dc528", func := "example.com/querysieve/querysieve/zzlaws_root_b1.FnPostgresDollarTokenShape", spec := "fnPostgresDollarTokenShape", inPlace := ["internal/bytealg.IndexByteString", "internal/bytealg.IndexString"], named := ["internal/bytealg.MaxLen"], apart := false }
def FnPostgresDollarTokenShapeSaid : Prop := fnPostgresDollarTokenShapeRow.holds Try.pinned (OpenSpec.ofChange fnPostgresDollarTokenShapeSpec)

/-- ITS FALSE NEIGHBOUR: 'it returns false'. Refute it at one input. -/
def fnPostgresDollarTokenShapeWrong : ChangeSpec := { name := "fnPostgresDollarTokenShape", fn := fun _ => fun
  | [d1, d2] => { results := [.lit (.bool false)], args := [d1, d2] }
  | _ => none }
def FnPostgresDollarTokenShapeWrongFalsely : Prop := fnPostgresDollarTokenShapeRow.holds Try.pinned (OpenSpec.ofChange fnPostgresDollarTokenShapeWrong)

/-- 'zzlaws_root_b1.FnPostgresDollarShiftAndCut': WHATEVER THE INPUT: true; the input reads as it did. -/
def fnPostgresDollarShiftAndCutSpec : ChangeSpec := { name := "fnPostgresDollarShiftAndCut", fn := fun _ => fun
  | [d1, d2, d3, d4] => { results := [.lit (.bool true)], args := [d1, d2, d3, d4] }
  | _ => none }
def fnPostgresDollarShiftAndCutRow : OpenClaim := { program := "qxb6000792a", sum := "e9611e86cd57d96d27cf0b71d0b10efc2ddaace38c7498bbb108e9efe66dc528", func := "example.com/querysieve/querysieve/zzlaws_root_b1.FnPostgresDollarShiftAndCut", spec := "fnPostgresDollarShiftAndCut", inPlace := ["internal/bytealg.IndexByteString", "internal/bytealg.IndexString"], named := ["internal/bytealg.MaxLen"], apart := false }
def FnPostgresDollarShiftAndCutSaid : Prop := fnPostgresDollarShiftAndCutRow.holds Try.pinned (OpenSpec.ofChange fnPostgresDollarShiftAndCutSpec)

/-- ITS FALSE NEIGHBOUR: 'it returns false'. Refute it at one input. -/
def fnPostgresDollarShiftAndCutWrong : ChangeSpec := { name := "fnPostgresDollarShiftAndCut", fn := fun _ => fun
  | [d1, d2, d3, d4] => { results := [.lit (.bool false)], args := [d1, d2, d3, d4] }
  | _ => none }
def FnPostgresDollarShiftAndCutWrongFalsely : Prop := fnPostgresDollarShiftAndCutRow.holds Try.pinned (OpenSpec.ofChange fnPostgresDollarShiftAndCutWrong)

/-- 'zzlaws_root_b1.FnPostgresDollarQuoteRoundTrip': WHATEVER THE INPUT: true; the input reads as it did. -/
def fnPostgresDollarQuoteRoundTripSpec : ChangeSpec := { name := "fnPostgresDollarQuoteRoundTrip", fn := fun _ => fun
  | [d1, d2, d3] => { results := [.lit (.bool true)], args := [d1, d2, d3] }
  | _ => none }
def fnPostgresDollarQuoteRoundTripRow : OpenClaim := { program := "qxb6000792a", sum := "e9611e86cd57d96d27cf0b71d0b10efc2ddaace38c7498bbb108e9efe66dc528", func := "example.com/querysieve/querysieve/zzlaws_root_b1.FnPostgresDollarQuoteRoundTrip", spec := "fnPostgresDollarQuoteRoundTrip", inPlace := ["internal/bytealg.IndexByteString", "internal/bytealg.IndexString"], named := ["internal/bytealg.MaxLen"], apart := false }
def FnPostgresDollarQuoteRoundTripSaid : Prop := fnPostgresDollarQuoteRoundTripRow.holds Try.pinned (OpenSpec.ofChange fnPostgresDollarQuoteRoundTripSpec)

/-- ITS FALSE NEIGHBOUR: 'it returns false'. Refute it at one input. -/
def fnPostgresDollarQuoteRoundTripWrong : ChangeSpec := { name := "fnPostgresDollarQuoteRoundTrip", fn := fun _ => fun
  | [d1, d2, d3] => { results := [.lit (.bool false)], args := [d1, d2, d3] }
  | _ => none }
def FnPostgresDollarQuoteRoundTripWrongFalsely : Prop := fnPostgresDollarQuoteRoundTripRow.holds Try.pinned (OpenSpec.ofChange fnPostgresDollarQuoteRoundTripWrong)

end Rows
end Go.Proofs.Qxb6000792a
