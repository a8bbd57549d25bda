/-
  No cell of these rows narrows 'for every input' (looked for: loops, veiled, ifaces, maps, wideKeys, modest, calm, conditions, laid).
  DERIVED. THE GIVEN ROWS OF THIS SEAT. 6 by the template 'for every input the law returns true; each argument reads behind the call as it read before'; 0 by the template 'total and deterministic' (their statements: Qxb6001367aTotals.lean).
  GIVEN WITH THE SEED: the statements are not yours to turn. If you find one false, say at which input.
  Laid BY PROGRAM, IN A SANDBOX (cutbox-rows.mjs): the forced cells as the released guide's own fill.sh prints them over the translation cd55fe1a9219b996… (all of the seat's roots in one cut). By AI agents, Wed Nov 11 2026. No macro, syntax, notation, axiom, sorry.
-/
import Derived.Test.Qxb6001367aChecked
import GoSem.Claim
import GoSem.ClaimJoined
import GoSem.ClaimMapViews
import Derived.JoinedTies
import Derived.KernelRfl
namespace Go.Proofs.Qxb6001367a
/- THE CELL 'sum', in the pinned program and in every row, IS THE sha256 OF THE DUMP (.gsa) THAT Qxb6001367aProg.lean LOADS. Nothing in Lean hashes anything: it is a label: what it is worth is what the hold of that sum in a sandbox is worth. -/
noncomputable def Try.pinned : Pinned := { name := "qxb6001367a", sum := "cd55fe1a9219b9968ecbb8f4b8188c5d1234e5ec8945183c61a868f9f1a68126", checked := Try.checked }
namespace Rows
def none {H : Type} : Left H := { results := [], args := [] }

/-- 'zzlaws_apikey_b1.FnEncodeDecodeRoundTrip': WHATEVER THE INPUT: true; the input reads as it did. -/
def fnEncodeDecodeRoundTripSpec : ChangeSpec := { name := "fnEncodeDecodeRoundTrip", fn := fun _ => fun
  | [d] => { results := [.lit (.bool true)], args := [d] }
  | _ => none }
def fnEncodeDecodeRoundTripRow : OpenClaim := { program := "qxb6001367a", sum := "cd55fe1a9219b9968ecbb8f4b8188c5d1234e5ec8945183c61a868f9f1a68126", func := "example.com/quorum-to-sign/quorum-to-sign/zzlaws_apikey_b1.FnEncodeDecodeRoundTrip", spec := "fnEncodeDecodeRoundTrip", inPlace := ["internal/bytealg.IndexByteString"], apart := false }
def FnEncodeDecodeRoundTripSaid : Prop := fnEncodeDecodeRoundTripRow.holds Try.pinned (OpenSpec.ofChange fnEncodeDecodeRoundTripSpec)

/-- ITS FALSE NEIGHBOUR: 'it returns false'. Refute it at one input. -/
def fnEncodeDecodeRoundTripWrong : ChangeSpec := { name := "fnEncodeDecodeRoundTrip", fn := fun _ => fun
  | [d] => { results := [.lit (.bool false)], args := [d] }
  | _ => none }
def FnEncodeDecodeRoundTripWrongFalsely : Prop := fnEncodeDecodeRoundTripRow.holds Try.pinned (OpenSpec.ofChange fnEncodeDecodeRoundTripWrong)

/-- 'zzlaws_apikey_b1.FnDecodeEncodeCanonical': WHATEVER THE INPUT: true; the input reads as it did. -/
def fnDecodeEncodeCanonicalSpec : ChangeSpec := { name := "fnDecodeEncodeCanonical", fn := fun _ => fun
  | [d1, d2] => { results := [.lit (.bool true)], args := [d1, d2] }
  | _ => none }
def fnDecodeEncodeCanonicalRow : OpenClaim := { program := "qxb6001367a", sum := "cd55fe1a9219b9968ecbb8f4b8188c5d1234e5ec8945183c61a868f9f1a68126", func := "example.com/quorum-to-sign/quorum-to-sign/zzlaws_apikey_b1.FnDecodeEncodeCanonical", spec := "fnDecodeEncodeCanonical", inPlace := ["internal/bytealg.IndexByteString"], apart := false }
def FnDecodeEncodeCanonicalSaid : Prop := fnDecodeEncodeCanonicalRow.holds Try.pinned (OpenSpec.ofChange fnDecodeEncodeCanonicalSpec)

/-- ITS FALSE NEIGHBOUR: 'it returns false'. Refute it at one input. -/
def fnDecodeEncodeCanonicalWrong : ChangeSpec := { name := "fnDecodeEncodeCanonical", fn := fun _ => fun
  | [d1, d2] => { results := [.lit (.bool false)], args := [d1, d2] }
  | _ => none }
def FnDecodeEncodeCanonicalWrongFalsely : Prop := fnDecodeEncodeCanonicalRow.holds Try.pinned (OpenSpec.ofChange fnDecodeEncodeCanonicalWrong)

/-- 'zzlaws_apikey_b1.FnEncodeOrderPreserving': WHATEVER THE INPUT: true; the input reads as it did. -/
def fnEncodeOrderPreservingSpec : ChangeSpec := { name := "fnEncodeOrderPreserving", fn := fun _ => fun
  | [d1, d2] => { results := [.lit (.bool true)], args := [d1, d2] }
  | _ => none }
def fnEncodeOrderPreservingRow : OpenClaim := { program := "qxb6001367a", sum := "cd55fe1a9219b9968ecbb8f4b8188c5d1234e5ec8945183c61a868f9f1a68126", func := "example.com/quorum-to-sign/quorum-to-sign/zzlaws_apikey_b1.FnEncodeOrderPreserving", spec := "fnEncodeOrderPreserving", apart := false }
def FnEncodeOrderPreservingSaid : Prop := fnEncodeOrderPreservingRow.holds Try.pinned (OpenSpec.ofChange fnEncodeOrderPreservingSpec)

/-- ITS FALSE NEIGHBOUR: 'it returns false'. Refute it at one input. -/
def fnEncodeOrderPreservingWrong : ChangeSpec := { name := "fnEncodeOrderPreserving", fn := fun _ => fun
  | [d1, d2] => { results := [.lit (.bool false)], args := [d1, d2] }
  | _ => none }
def FnEncodeOrderPreservingWrongFalsely : Prop := fnEncodeOrderPreservingRow.holds Try.pinned (OpenSpec.ofChange fnEncodeOrderPreservingWrong)

/-- 'zzlaws_apikey_b1.FnEncodeShape': WHATEVER THE INPUT: true; the input reads as it did. -/
def fnEncodeShapeSpec : ChangeSpec := { name := "fnEncodeShape", fn := fun _ => fun
  | [d] => { results := [.lit (.bool true)], args := [d] }
  | _ => none }
def fnEncodeShapeRow : OpenClaim := { program := "qxb6001367a", sum := "cd55fe1a9219b9968ecbb8f4b8188c5d1234e5ec8945183c61a868f9f1a68126", func := "example.com/quorum-to-sign/quorum-to-sign/zzlaws_apikey_b1.FnEncodeShape", spec := "fnEncodeShape", apart := false }
def FnEncodeShapeSaid : Prop := fnEncodeShapeRow.holds Try.pinned (OpenSpec.ofChange fnEncodeShapeSpec)

/-- ITS FALSE NEIGHBOUR: 'it returns false'. Refute it at one input. -/
def fnEncodeShapeWrong : ChangeSpec := { name := "fnEncodeShape", fn := fun _ => fun
  | [d] => { results := [.lit (.bool false)], args := [d] }
  | _ => none }
def FnEncodeShapeWrongFalsely : Prop := fnEncodeShapeRow.holds Try.pinned (OpenSpec.ofChange fnEncodeShapeWrong)

/-- 'zzlaws_apikey_b1.FnDecodeSizeExact': WHATEVER THE INPUT: true; the input reads as it did. -/
def fnDecodeSizeExactSpec : ChangeSpec := { name := "fnDecodeSizeExact", fn := fun _ => fun
  | [d1, d2] => { results := [.lit (.bool true)], args := [d1, d2] }
  | _ => none }
def fnDecodeSizeExactRow : OpenClaim := { program := "qxb6001367a", sum := "cd55fe1a9219b9968ecbb8f4b8188c5d1234e5ec8945183c61a868f9f1a68126", func := "example.com/quorum-to-sign/quorum-to-sign/zzlaws_apikey_b1.FnDecodeSizeExact", spec := "fnDecodeSizeExact", inPlace := ["internal/bytealg.IndexByteString"], apart := false }
def FnDecodeSizeExactSaid : Prop := fnDecodeSizeExactRow.holds Try.pinned (OpenSpec.ofChange fnDecodeSizeExactSpec)

/-- ITS FALSE NEIGHBOUR: 'it returns false'. Refute it at one input. -/
def fnDecodeSizeExactWrong : ChangeSpec := { name := "fnDecodeSizeExact", fn := fun _ => fun
  | [d1, d2] => { results := [.lit (.bool false)], args := [d1, d2] }
  | _ => none }
def FnDecodeSizeExactWrongFalsely : Prop := fnDecodeSizeExactRow.holds Try.pinned (OpenSpec.ofChange fnDecodeSizeExactWrong)

/-- 'zzlaws_apikey_b1.FnDecodeRefusals': WHATEVER THE INPUT: true; the input reads as it did. -/
def fnDecodeRefusalsSpec : ChangeSpec := { name := "fnDecodeRefusals", fn := fun _ => fun
  | [d1, d2, d3, d4] => { results := [.lit (.bool true)], args := [d1, d2, d3, d4] }
  | _ => none }
def fnDecodeRefusalsRow : OpenClaim := { program := "qxb6001367a", sum := "cd55fe1a9219b9968ecbb8f4b8188c5d1234e5ec8945183c61a868f9f1a68126", func := "example.com/quorum-to-sign/quorum-to-sign/zzlaws_apikey_b1.FnDecodeRefusals", spec := "fnDecodeRefusals", inPlace := ["internal/bytealg.IndexByteString"], apart := false }
def FnDecodeRefusalsSaid : Prop := fnDecodeRefusalsRow.holds Try.pinned (OpenSpec.ofChange fnDecodeRefusalsSpec)

/-- ITS FALSE NEIGHBOUR: 'it returns false'. Refute it at one input. -/
def fnDecodeRefusalsWrong : ChangeSpec := { name := "fnDecodeRefusals", fn := fun _ => fun
  | [d1, d2, d3, d4] => { results := [.lit (.bool false)], args := [d1, d2, d3, d4] }
  | _ => none }
def FnDecodeRefusalsWrongFalsely : Prop := fnDecodeRefusalsRow.holds Try.pinned (OpenSpec.ofChange fnDecodeRefusalsWrong)

end Rows
end Go.Proofs.Qxb6001367a
