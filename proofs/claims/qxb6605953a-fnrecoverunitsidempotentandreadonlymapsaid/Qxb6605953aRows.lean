/-
  No cell of these rows narrows 'for every input' (looked for: loops, veiled, ifaces, maps, wideKeys, modest, calm, conditions, laid).
  DERIVED. THE GIVEN ROWS OF THIS SEAT. 4 by the template 'for every input the law returns true; each argument reads behind the call as it read before'; 0 by the template 'total and deterministic' (their statements: Qxb6605953aTotals.lean).
  GIVEN WITH THE SEED: the statements are not yours to turn. If you find one false, say at which input.
  Laid BY PROGRAM, IN A SANDBOX (cutbox-rows.mjs): the forced cells as the released guide's own fill.sh prints them over the translation 6ff62212ffd97cee… (all of the seat's roots in one cut). By AI agents, Wed Nov 11 2026. No macro, syntax, notation, axiom, sorry.
-/
import Derived.Test.Qxb6605953aChecked
import GoSem.Claim
import GoSem.ClaimJoined
import GoSem.ClaimMapViews
import Derived.JoinedTies
import Derived.KernelRfl
namespace Go.Proofs.Qxb6605953a
/- THE CELL 'sum', in the pinned program and in every row, IS THE sha256 OF THE DUMP (.gsa) THAT Qxb6605953aProg.lean LOADS. Nothing in Lean hashes anything: it is a label: what it is worth is what the hold of that sum in a sandbox is worth. -/
noncomputable def Try.pinned : Pinned := { name := "qxb6605953a", sum := "6ff62212ffd97ceef2a32571146549be72667986bee614731e3409891e638ca9", checked := Try.checked }
namespace Rows
def none {H : Type} : Left H := { results := [], args := [] }

/-- 'zzlaws_root_b1.FnTestUnitReadyCDBIsWellFormed': WHATEVER THE INPUT: true; the input reads as it did. -/
def fnTestUnitReadyCDBIsWellFormedSpec : ChangeSpec := { name := "fnTestUnitReadyCDBIsWellFormed", fn := fun _ => fun
  | [] => { results := [.lit (.bool true)], args := [] }
  | _ => none }
def fnTestUnitReadyCDBIsWellFormedRow : OpenClaim := { program := "qxb6605953a", sum := "6ff62212ffd97ceef2a32571146549be72667986bee614731e3409891e638ca9", func := "example.com/midlane/midlane/zzlaws_root_b1.FnTestUnitReadyCDBIsWellFormed", spec := "fnTestUnitReadyCDBIsWellFormed", apart := false }
def FnTestUnitReadyCDBIsWellFormedSaid : Prop := fnTestUnitReadyCDBIsWellFormedRow.holds Try.pinned (OpenSpec.ofChange fnTestUnitReadyCDBIsWellFormedSpec)

/-- ITS FALSE NEIGHBOUR: 'it returns false'. Refute it at one input. -/
def fnTestUnitReadyCDBIsWellFormedWrong : ChangeSpec := { name := "fnTestUnitReadyCDBIsWellFormed", fn := fun _ => fun
  | [] => { results := [.lit (.bool false)], args := [] }
  | _ => none }
def FnTestUnitReadyCDBIsWellFormedWrongFalsely : Prop := fnTestUnitReadyCDBIsWellFormedRow.holds Try.pinned (OpenSpec.ofChange fnTestUnitReadyCDBIsWellFormedWrong)

/-- 'zzlaws_root_b1.FnTestUnitReadyCDBIsFreshEachCall': WHATEVER THE INPUT: true; the input reads as it did. -/
def fnTestUnitReadyCDBIsFreshEachCallSpec : ChangeSpec := { name := "fnTestUnitReadyCDBIsFreshEachCall", fn := fun _ => fun
  | [] => { results := [.lit (.bool true)], args := [] }
  | _ => none }
def fnTestUnitReadyCDBIsFreshEachCallRow : OpenClaim := { program := "qxb6605953a", sum := "6ff62212ffd97ceef2a32571146549be72667986bee614731e3409891e638ca9", func := "example.com/midlane/midlane/zzlaws_root_b1.FnTestUnitReadyCDBIsFreshEachCall", spec := "fnTestUnitReadyCDBIsFreshEachCall", apart := false }
def FnTestUnitReadyCDBIsFreshEachCallSaid : Prop := fnTestUnitReadyCDBIsFreshEachCallRow.holds Try.pinned (OpenSpec.ofChange fnTestUnitReadyCDBIsFreshEachCallSpec)

/-- ITS FALSE NEIGHBOUR: 'it returns false'. Refute it at one input. -/
def fnTestUnitReadyCDBIsFreshEachCallWrong : ChangeSpec := { name := "fnTestUnitReadyCDBIsFreshEachCall", fn := fun _ => fun
  | [] => { results := [.lit (.bool false)], args := [] }
  | _ => none }
def FnTestUnitReadyCDBIsFreshEachCallWrongFalsely : Prop := fnTestUnitReadyCDBIsFreshEachCallRow.holds Try.pinned (OpenSpec.ofChange fnTestUnitReadyCDBIsFreshEachCallWrong)

/-- 'zzlaws_root_b1.FnSucceededIgnoresFlagBits': WHATEVER THE INPUT: true; the input reads as it did. -/
def fnSucceededIgnoresFlagBitsSpec : ChangeSpec := { name := "fnSucceededIgnoresFlagBits", fn := fun _ => fun
  | [d1, d2, d3, d4, d5] => { results := [.lit (.bool true)], args := [d1, d2, d3, d4, d5] }
  | _ => none }
def fnSucceededIgnoresFlagBitsRow : OpenClaim := { program := "qxb6605953a", sum := "6ff62212ffd97ceef2a32571146549be72667986bee614731e3409891e638ca9", func := "example.com/midlane/midlane/zzlaws_root_b1.FnSucceededIgnoresFlagBits", spec := "fnSucceededIgnoresFlagBits", named := ["encoding/binary.BigEndian"], apart := false }
def FnSucceededIgnoresFlagBitsSaid : Prop := fnSucceededIgnoresFlagBitsRow.holds Try.pinned (OpenSpec.ofChange fnSucceededIgnoresFlagBitsSpec)

/-- ITS FALSE NEIGHBOUR: 'it returns false'. Refute it at one input. -/
def fnSucceededIgnoresFlagBitsWrong : ChangeSpec := { name := "fnSucceededIgnoresFlagBits", fn := fun _ => fun
  | [d1, d2, d3, d4, d5] => { results := [.lit (.bool false)], args := [d1, d2, d3, d4, d5] }
  | _ => none }
def FnSucceededIgnoresFlagBitsWrongFalsely : Prop := fnSucceededIgnoresFlagBitsRow.holds Try.pinned (OpenSpec.ofChange fnSucceededIgnoresFlagBitsWrong)

/-- 'zzlaws_root_b1.FnRecoverUnitsIdempotentAndReadOnlyMap': WHATEVER THE INPUT: true; the input reads as it did. -/
def fnRecoverUnitsIdempotentAndReadOnlyMapSpec : ChangeSpec := { name := "fnRecoverUnitsIdempotentAndReadOnlyMap", fn := fun _ => fun
  | [d1, d2] => { results := [.lit (.bool true)], args := [d1, d2] }
  | _ => none }
def fnRecoverUnitsIdempotentAndReadOnlyMapRow : OpenClaim := { program := "qxb6605953a", sum := "6ff62212ffd97ceef2a32571146549be72667986bee614731e3409891e638ca9", func := "example.com/midlane/midlane/zzlaws_root_b1.FnRecoverUnitsIdempotentAndReadOnlyMap", spec := "fnRecoverUnitsIdempotentAndReadOnlyMap", apart := false }
def FnRecoverUnitsIdempotentAndReadOnlyMapSaid : Prop := fnRecoverUnitsIdempotentAndReadOnlyMapRow.holds Try.pinned (OpenSpec.ofChange fnRecoverUnitsIdempotentAndReadOnlyMapSpec)

/-- ITS FALSE NEIGHBOUR: 'it returns false'. Refute it at one input. -/
def fnRecoverUnitsIdempotentAndReadOnlyMapWrong : ChangeSpec := { name := "fnRecoverUnitsIdempotentAndReadOnlyMap", fn := fun _ => fun
  | [d1, d2] => { results := [.lit (.bool false)], args := [d1, d2] }
  | _ => none }
def FnRecoverUnitsIdempotentAndReadOnlyMapWrongFalsely : Prop := fnRecoverUnitsIdempotentAndReadOnlyMapRow.holds Try.pinned (OpenSpec.ofChange fnRecoverUnitsIdempotentAndReadOnlyMapWrong)

end Rows
end Go.Proofs.Qxb6605953a
