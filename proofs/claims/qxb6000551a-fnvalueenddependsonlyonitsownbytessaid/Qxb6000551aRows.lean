/-
  No cell of these rows narrows 'for every input' (looked for: loops, veiled, ifaces, maps, wideKeys, modest, calm, conditions, laid).
  DERIVED. THE GIVEN ROWS OF THIS SEAT. 7 by the template 'for every input the law returns true; each argument reads behind the call as it read before'; 0 by the template 'total and deterministic' (their statements: Qxb6000551aTotals.lean).
  GIVEN WITH THE SEED: the statements are not yours to turn. If you find one false, say at which input.
  Laid BY PROGRAM, IN A SANDBOX (cutbox-rows.mjs): the forced cells as the released guide's own fill.sh prints them over the translation bc03170e11f5ae17… (all of the seat's roots in one cut). By AI agents, Wed Nov 11 2026. No macro, syntax, notation, axiom, sorry.
-/
import Derived.Test.Qxb6000551aChecked
import GoSem.Claim
import GoSem.ClaimJoined
import GoSem.ClaimMapViews
import Derived.JoinedTies
import Derived.KernelRfl
namespace Go.Proofs.Qxb6000551a
/- THE CELL 'sum', in the pinned program and in every row, IS THE sha256 OF THE DUMP (.gsa) THAT Qxb6000551aProg.lean LOADS. Nothing in Lean hashes anything: it is a label: what it is worth is what the hold of that sum in a sandbox is worth. -/
noncomputable def Try.pinned : Pinned := { name := "qxb6000551a", sum := "bc03170e11f5ae17f8290a43c036c1d251b9b701eb80343b22e9c06addb781b9", checked := Try.checked }
namespace Rows
def none {H : Type} : Left H := { results := [], args := [] }

/-- 'zzlaws_internal_rawjson_b1.FnValueEndMatchesModel': WHATEVER THE INPUT: true; the input reads as it did. -/
def fnValueEndMatchesModelSpec : ChangeSpec := { name := "fnValueEndMatchesModel", fn := fun _ => fun
  | [d1, d2] => { results := [.lit (.bool true)], args := [d1, d2] }
  | _ => none }
def fnValueEndMatchesModelRow : OpenClaim := { program := "qxb6000551a", sum := "bc03170e11f5ae17f8290a43c036c1d251b9b701eb80343b22e9c06addb781b9", func := "example.com/wirecall/wirecall/zzlaws_internal_rawjson_b1.FnValueEndMatchesModel", spec := "fnValueEndMatchesModel", inPlace := ["internal/bytealg.IndexByte"], recurses := true, apart := false }
def FnValueEndMatchesModelSaid : Prop := fnValueEndMatchesModelRow.holds Try.pinned (OpenSpec.ofChange fnValueEndMatchesModelSpec)

/-- ITS FALSE NEIGHBOUR: 'it returns false'. Refute it at one input. -/
def fnValueEndMatchesModelWrong : ChangeSpec := { name := "fnValueEndMatchesModel", fn := fun _ => fun
  | [d1, d2] => { results := [.lit (.bool false)], args := [d1, d2] }
  | _ => none }
def FnValueEndMatchesModelWrongFalsely : Prop := fnValueEndMatchesModelRow.holds Try.pinned (OpenSpec.ofChange fnValueEndMatchesModelWrong)

/-- 'zzlaws_internal_rawjson_b1.FnValueEndIgnoresWhatStandsBefore': WHATEVER THE INPUT: true; the input reads as it did. -/
def fnValueEndIgnoresWhatStandsBeforeSpec : ChangeSpec := { name := "fnValueEndIgnoresWhatStandsBefore", fn := fun _ => fun
  | [d1, d2, d3] => { results := [.lit (.bool true)], args := [d1, d2, d3] }
  | _ => none }
def fnValueEndIgnoresWhatStandsBeforeRow : OpenClaim := { program := "qxb6000551a", sum := "bc03170e11f5ae17f8290a43c036c1d251b9b701eb80343b22e9c06addb781b9", func := "example.com/wirecall/wirecall/zzlaws_internal_rawjson_b1.FnValueEndIgnoresWhatStandsBefore", spec := "fnValueEndIgnoresWhatStandsBefore", inPlace := ["internal/bytealg.IndexByte"], apart := false }
def FnValueEndIgnoresWhatStandsBeforeSaid : Prop := fnValueEndIgnoresWhatStandsBeforeRow.holds Try.pinned (OpenSpec.ofChange fnValueEndIgnoresWhatStandsBeforeSpec)

/-- ITS FALSE NEIGHBOUR: 'it returns false'. Refute it at one input. -/
def fnValueEndIgnoresWhatStandsBeforeWrong : ChangeSpec := { name := "fnValueEndIgnoresWhatStandsBefore", fn := fun _ => fun
  | [d1, d2, d3] => { results := [.lit (.bool false)], args := [d1, d2, d3] }
  | _ => none }
def FnValueEndIgnoresWhatStandsBeforeWrongFalsely : Prop := fnValueEndIgnoresWhatStandsBeforeRow.holds Try.pinned (OpenSpec.ofChange fnValueEndIgnoresWhatStandsBeforeWrong)

/-- 'zzlaws_internal_rawjson_b1.FnValueEndDependsOnlyOnItsOwnBytes': WHATEVER THE INPUT: true; the input reads as it did. -/
def fnValueEndDependsOnlyOnItsOwnBytesSpec : ChangeSpec := { name := "fnValueEndDependsOnlyOnItsOwnBytes", fn := fun _ => fun
  | [d1, d2, d3] => { results := [.lit (.bool true)], args := [d1, d2, d3] }
  | _ => none }
def fnValueEndDependsOnlyOnItsOwnBytesRow : OpenClaim := { program := "qxb6000551a", sum := "bc03170e11f5ae17f8290a43c036c1d251b9b701eb80343b22e9c06addb781b9", func := "example.com/wirecall/wirecall/zzlaws_internal_rawjson_b1.FnValueEndDependsOnlyOnItsOwnBytes", spec := "fnValueEndDependsOnlyOnItsOwnBytes", inPlace := ["internal/bytealg.IndexByte"], apart := false }
def FnValueEndDependsOnlyOnItsOwnBytesSaid : Prop := fnValueEndDependsOnlyOnItsOwnBytesRow.holds Try.pinned (OpenSpec.ofChange fnValueEndDependsOnlyOnItsOwnBytesSpec)

/-- ITS FALSE NEIGHBOUR: 'it returns false'. Refute it at one input. -/
def fnValueEndDependsOnlyOnItsOwnBytesWrong : ChangeSpec := { name := "fnValueEndDependsOnlyOnItsOwnBytes", fn := fun _ => fun
  | [d1, d2, d3] => { results := [.lit (.bool false)], args := [d1, d2, d3] }
  | _ => none }
def FnValueEndDependsOnlyOnItsOwnBytesWrongFalsely : Prop := fnValueEndDependsOnlyOnItsOwnBytesRow.holds Try.pinned (OpenSpec.ofChange fnValueEndDependsOnlyOnItsOwnBytesWrong)

/-- 'zzlaws_internal_rawjson_b1.FnStringEndMatchesModel': WHATEVER THE INPUT: true; the input reads as it did. -/
def fnStringEndMatchesModelSpec : ChangeSpec := { name := "fnStringEndMatchesModel", fn := fun _ => fun
  | [d1, d2] => { results := [.lit (.bool true)], args := [d1, d2] }
  | _ => none }
def fnStringEndMatchesModelRow : OpenClaim := { program := "qxb6000551a", sum := "bc03170e11f5ae17f8290a43c036c1d251b9b701eb80343b22e9c06addb781b9", func := "example.com/wirecall/wirecall/zzlaws_internal_rawjson_b1.FnStringEndMatchesModel", spec := "fnStringEndMatchesModel", inPlace := ["internal/bytealg.IndexByte"], apart := false }
def FnStringEndMatchesModelSaid : Prop := fnStringEndMatchesModelRow.holds Try.pinned (OpenSpec.ofChange fnStringEndMatchesModelSpec)

/-- ITS FALSE NEIGHBOUR: 'it returns false'. Refute it at one input. -/
def fnStringEndMatchesModelWrong : ChangeSpec := { name := "fnStringEndMatchesModel", fn := fun _ => fun
  | [d1, d2] => { results := [.lit (.bool false)], args := [d1, d2] }
  | _ => none }
def FnStringEndMatchesModelWrongFalsely : Prop := fnStringEndMatchesModelRow.holds Try.pinned (OpenSpec.ofChange fnStringEndMatchesModelWrong)

/-- 'zzlaws_internal_rawjson_b1.FnStringEndBounds': WHATEVER THE INPUT: true; the input reads as it did. -/
def fnStringEndBoundsSpec : ChangeSpec := { name := "fnStringEndBounds", fn := fun _ => fun
  | [d1, d2] => { results := [.lit (.bool true)], args := [d1, d2] }
  | _ => none }
def fnStringEndBoundsRow : OpenClaim := { program := "qxb6000551a", sum := "bc03170e11f5ae17f8290a43c036c1d251b9b701eb80343b22e9c06addb781b9", func := "example.com/wirecall/wirecall/zzlaws_internal_rawjson_b1.FnStringEndBounds", spec := "fnStringEndBounds", inPlace := ["internal/bytealg.IndexByte"], apart := false }
def FnStringEndBoundsSaid : Prop := fnStringEndBoundsRow.holds Try.pinned (OpenSpec.ofChange fnStringEndBoundsSpec)

/-- ITS FALSE NEIGHBOUR: 'it returns false'. Refute it at one input. -/
def fnStringEndBoundsWrong : ChangeSpec := { name := "fnStringEndBounds", fn := fun _ => fun
  | [d1, d2] => { results := [.lit (.bool false)], args := [d1, d2] }
  | _ => none }
def FnStringEndBoundsWrongFalsely : Prop := fnStringEndBoundsRow.holds Try.pinned (OpenSpec.ofChange fnStringEndBoundsWrong)

/-- 'zzlaws_internal_rawjson_b1.FnMoreConsumesSpaceAndOneMark': WHATEVER THE INPUT: true; the input reads as it did. -/
def fnMoreConsumesSpaceAndOneMarkSpec : ChangeSpec := { name := "fnMoreConsumesSpaceAndOneMark", fn := fun _ => fun
  | [d1, d2] => { results := [.lit (.bool true)], args := [d1, d2] }
  | _ => none }
def fnMoreConsumesSpaceAndOneMarkRow : OpenClaim := { program := "qxb6000551a", sum := "bc03170e11f5ae17f8290a43c036c1d251b9b701eb80343b22e9c06addb781b9", func := "example.com/wirecall/wirecall/zzlaws_internal_rawjson_b1.FnMoreConsumesSpaceAndOneMark", spec := "fnMoreConsumesSpaceAndOneMark", apart := false }
def FnMoreConsumesSpaceAndOneMarkSaid : Prop := fnMoreConsumesSpaceAndOneMarkRow.holds Try.pinned (OpenSpec.ofChange fnMoreConsumesSpaceAndOneMarkSpec)

/-- ITS FALSE NEIGHBOUR: 'it returns false'. Refute it at one input. -/
def fnMoreConsumesSpaceAndOneMarkWrong : ChangeSpec := { name := "fnMoreConsumesSpaceAndOneMark", fn := fun _ => fun
  | [d1, d2] => { results := [.lit (.bool false)], args := [d1, d2] }
  | _ => none }
def FnMoreConsumesSpaceAndOneMarkWrongFalsely : Prop := fnMoreConsumesSpaceAndOneMarkRow.holds Try.pinned (OpenSpec.ofChange fnMoreConsumesSpaceAndOneMarkWrong)

/-- 'zzlaws_internal_rawjson_b1.FnMoreIdempotentAtElement': WHATEVER THE INPUT: true; the input reads as it did. -/
def fnMoreIdempotentAtElementSpec : ChangeSpec := { name := "fnMoreIdempotentAtElement", fn := fun _ => fun
  | [d1, d2] => { results := [.lit (.bool true)], args := [d1, d2] }
  | _ => none }
def fnMoreIdempotentAtElementRow : OpenClaim := { program := "qxb6000551a", sum := "bc03170e11f5ae17f8290a43c036c1d251b9b701eb80343b22e9c06addb781b9", func := "example.com/wirecall/wirecall/zzlaws_internal_rawjson_b1.FnMoreIdempotentAtElement", spec := "fnMoreIdempotentAtElement", apart := false }
def FnMoreIdempotentAtElementSaid : Prop := fnMoreIdempotentAtElementRow.holds Try.pinned (OpenSpec.ofChange fnMoreIdempotentAtElementSpec)

/-- ITS FALSE NEIGHBOUR: 'it returns false'. Refute it at one input. -/
def fnMoreIdempotentAtElementWrong : ChangeSpec := { name := "fnMoreIdempotentAtElement", fn := fun _ => fun
  | [d1, d2] => { results := [.lit (.bool false)], args := [d1, d2] }
  | _ => none }
def FnMoreIdempotentAtElementWrongFalsely : Prop := fnMoreIdempotentAtElementRow.holds Try.pinned (OpenSpec.ofChange fnMoreIdempotentAtElementWrong)

end Rows
end Go.Proofs.Qxb6000551a
