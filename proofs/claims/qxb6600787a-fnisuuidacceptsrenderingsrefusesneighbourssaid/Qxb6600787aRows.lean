/-
  No cell of these rows narrows 'for every input' (looked for: loops, veiled, ifaces, maps, wideKeys, modest, calm, conditions, laid).
  DERIVED. THE GIVEN ROWS OF THIS SEAT. 5 by the template 'for every input the law returns true; each argument reads behind the call as it read before'; 0 by the template 'total and deterministic' (their statements: Qxb6600787aTotals.lean).
  GIVEN WITH THE SEED: the statements are not yours to turn. If you find one false, say at which input.
  Laid BY PROGRAM, IN A SANDBOX (cutbox-rows.mjs): the forced cells as the released guide's own fill.sh prints them over the translation 01eec5610a3c2e3a… (all of the seat's roots in one cut). By AI agents, Wed Nov 11 2026. No macro, syntax, notation, axiom, sorry.
-/
import Derived.Test.Qxb6600787aChecked
import GoSem.Claim
import GoSem.ClaimJoined
import GoSem.ClaimMapViews
import Derived.JoinedTies
import Derived.KernelRfl
namespace Go.Proofs.Qxb6600787a
/- THE CELL 'sum', in the pinned program and in every row, IS THE sha256 OF THE DUMP (.gsa) THAT Qxb6600787aProg.lean LOADS. Nothing in Lean hashes anything: it is a label: what it is worth is what the hold of that sum in a sandbox is worth. -/
noncomputable def Try.pinned : Pinned := { name := "qxb6600787a", sum := "01eec5610a3c2e3ae09fde7e246a5af5fa1dab328009f880613e2f7d0bdea443", checked := Try.checked }
namespace Rows
def none {H : Type} : Left H := { results := [], args := [] }

/-- 'zzlaws_root_b1.FnIsUUIDMatchesGroupModel': WHATEVER THE INPUT: true; the input reads as it did. -/
def fnIsUUIDMatchesGroupModelSpec : ChangeSpec := { name := "fnIsUUIDMatchesGroupModel", fn := fun _ => fun
  | [d] => { results := [.lit (.bool true)], args := [d] }
  | _ => none }
def fnIsUUIDMatchesGroupModelRow : OpenClaim := { program := "qxb6600787a", sum := "01eec5610a3c2e3ae09fde7e246a5af5fa1dab328009f880613e2f7d0bdea443", func := "example.com/pathfen/pathfen/zzlaws_root_b1.FnIsUUIDMatchesGroupModel", spec := "fnIsUUIDMatchesGroupModel", inPlace := ["internal/bytealg.IndexByteString"], apart := false }
def FnIsUUIDMatchesGroupModelSaid : Prop := fnIsUUIDMatchesGroupModelRow.holds Try.pinned (OpenSpec.ofChange fnIsUUIDMatchesGroupModelSpec)

/-- ITS FALSE NEIGHBOUR: 'it returns false'. Refute it at one input. -/
def fnIsUUIDMatchesGroupModelWrong : ChangeSpec := { name := "fnIsUUIDMatchesGroupModel", fn := fun _ => fun
  | [d] => { results := [.lit (.bool false)], args := [d] }
  | _ => none }
def FnIsUUIDMatchesGroupModelWrongFalsely : Prop := fnIsUUIDMatchesGroupModelRow.holds Try.pinned (OpenSpec.ofChange fnIsUUIDMatchesGroupModelWrong)

/-- 'zzlaws_root_b1.FnIsUUIDCaseBlind': WHATEVER THE INPUT: true; the input reads as it did. -/
def fnIsUUIDCaseBlindSpec : ChangeSpec := { name := "fnIsUUIDCaseBlind", fn := fun _ => fun
  | [d] => { results := [.lit (.bool true)], args := [d] }
  | _ => none }
def fnIsUUIDCaseBlindRow : OpenClaim := { program := "qxb6600787a", sum := "01eec5610a3c2e3ae09fde7e246a5af5fa1dab328009f880613e2f7d0bdea443", func := "example.com/pathfen/pathfen/zzlaws_root_b1.FnIsUUIDCaseBlind", spec := "fnIsUUIDCaseBlind", inPlace := ["internal/bytealg.IndexByteString"], apart := false }
def FnIsUUIDCaseBlindSaid : Prop := fnIsUUIDCaseBlindRow.holds Try.pinned (OpenSpec.ofChange fnIsUUIDCaseBlindSpec)

/-- ITS FALSE NEIGHBOUR: 'it returns false'. Refute it at one input. -/
def fnIsUUIDCaseBlindWrong : ChangeSpec := { name := "fnIsUUIDCaseBlind", fn := fun _ => fun
  | [d] => { results := [.lit (.bool false)], args := [d] }
  | _ => none }
def FnIsUUIDCaseBlindWrongFalsely : Prop := fnIsUUIDCaseBlindRow.holds Try.pinned (OpenSpec.ofChange fnIsUUIDCaseBlindWrong)

/-- 'zzlaws_root_b1.FnIsUUIDAcceptsRenderingsRefusesNeighbours': WHATEVER THE INPUT: true; the input reads as it did. -/
def fnIsUUIDAcceptsRenderingsRefusesNeighboursSpec : ChangeSpec := { name := "fnIsUUIDAcceptsRenderingsRefusesNeighbours", fn := fun _ => fun
  | [d1, d2] => { results := [.lit (.bool true)], args := [d1, d2] }
  | _ => none }
def fnIsUUIDAcceptsRenderingsRefusesNeighboursRow : OpenClaim := { program := "qxb6600787a", sum := "01eec5610a3c2e3ae09fde7e246a5af5fa1dab328009f880613e2f7d0bdea443", func := "example.com/pathfen/pathfen/zzlaws_root_b1.FnIsUUIDAcceptsRenderingsRefusesNeighbours", spec := "fnIsUUIDAcceptsRenderingsRefusesNeighbours", inPlace := ["internal/bytealg.IndexByteString"], apart := false }
def FnIsUUIDAcceptsRenderingsRefusesNeighboursSaid : Prop := fnIsUUIDAcceptsRenderingsRefusesNeighboursRow.holds Try.pinned (OpenSpec.ofChange fnIsUUIDAcceptsRenderingsRefusesNeighboursSpec)

/-- ITS FALSE NEIGHBOUR: 'it returns false'. Refute it at one input. -/
def fnIsUUIDAcceptsRenderingsRefusesNeighboursWrong : ChangeSpec := { name := "fnIsUUIDAcceptsRenderingsRefusesNeighbours", fn := fun _ => fun
  | [d1, d2] => { results := [.lit (.bool false)], args := [d1, d2] }
  | _ => none }
def FnIsUUIDAcceptsRenderingsRefusesNeighboursWrongFalsely : Prop := fnIsUUIDAcceptsRenderingsRefusesNeighboursRow.holds Try.pinned (OpenSpec.ofChange fnIsUUIDAcceptsRenderingsRefusesNeighboursWrong)

/-- 'zzlaws_root_b1.FnParseWeightReadsEveryRendering': WHATEVER THE INPUT: true; the input reads as it did. -/
def fnParseWeightReadsEveryRenderingSpec : ChangeSpec := { name := "fnParseWeightReadsEveryRendering", fn := fun _ => fun
  | [d] => { results := [.lit (.bool true)], args := [d] }
  | _ => none }
def fnParseWeightReadsEveryRenderingRow : OpenClaim := { program := "qxb6600787a", sum := "01eec5610a3c2e3ae09fde7e246a5af5fa1dab328009f880613e2f7d0bdea443", func := "example.com/pathfen/pathfen/zzlaws_root_b1.FnParseWeightReadsEveryRendering", spec := "fnParseWeightReadsEveryRendering", apart := false }
def FnParseWeightReadsEveryRenderingSaid : Prop := fnParseWeightReadsEveryRenderingRow.holds Try.pinned (OpenSpec.ofChange fnParseWeightReadsEveryRenderingSpec)

/-- ITS FALSE NEIGHBOUR: 'it returns false'. Refute it at one input. -/
def fnParseWeightReadsEveryRenderingWrong : ChangeSpec := { name := "fnParseWeightReadsEveryRendering", fn := fun _ => fun
  | [d] => { results := [.lit (.bool false)], args := [d] }
  | _ => none }
def FnParseWeightReadsEveryRenderingWrongFalsely : Prop := fnParseWeightReadsEveryRenderingRow.holds Try.pinned (OpenSpec.ofChange fnParseWeightReadsEveryRenderingWrong)

/-- 'zzlaws_root_b1.FnParseWeightTrailingZeroBlind': WHATEVER THE INPUT: true; the input reads as it did. -/
def fnParseWeightTrailingZeroBlindSpec : ChangeSpec := { name := "fnParseWeightTrailingZeroBlind", fn := fun _ => fun
  | [d] => { results := [.lit (.bool true)], args := [d] }
  | _ => none }
def fnParseWeightTrailingZeroBlindRow : OpenClaim := { program := "qxb6600787a", sum := "01eec5610a3c2e3ae09fde7e246a5af5fa1dab328009f880613e2f7d0bdea443", func := "example.com/pathfen/pathfen/zzlaws_root_b1.FnParseWeightTrailingZeroBlind", spec := "fnParseWeightTrailingZeroBlind", apart := false }
def FnParseWeightTrailingZeroBlindSaid : Prop := fnParseWeightTrailingZeroBlindRow.holds Try.pinned (OpenSpec.ofChange fnParseWeightTrailingZeroBlindSpec)

/-- ITS FALSE NEIGHBOUR: 'it returns false'. Refute it at one input. -/
def fnParseWeightTrailingZeroBlindWrong : ChangeSpec := { name := "fnParseWeightTrailingZeroBlind", fn := fun _ => fun
  | [d] => { results := [.lit (.bool false)], args := [d] }
  | _ => none }
def FnParseWeightTrailingZeroBlindWrongFalsely : Prop := fnParseWeightTrailingZeroBlindRow.holds Try.pinned (OpenSpec.ofChange fnParseWeightTrailingZeroBlindWrong)

end Rows
end Go.Proofs.Qxb6600787a
