/-
  No cell of these rows narrows 'for every input' (looked for: loops, veiled, ifaces, maps, wideKeys, modest, calm, conditions, laid).
  DERIVED. THE GIVEN ROWS OF THIS SEAT. 3 by the template 'for every input the law returns true; each argument reads behind the call as it read before'; 0 by the template 'total and deterministic' (their statements: Qxb6606012aTotals.lean).
  GIVEN WITH THE SEED: the statements are not yours to turn. If you find one false, say at which input.
  Laid BY PROGRAM, IN A SANDBOX (cutbox-rows.mjs): the forced cells as the released guide's own fill.sh prints them over the translation 5796f6f457d1209e… (all of the seat's roots in one cut). By AI agents, Wed Nov 11 2026. No macro, syntax, notation, axiom, sorry.
-/
import Derived.Test.Qxb6606012aChecked
import GoSem.Claim
import GoSem.ClaimJoined
import GoSem.ClaimMapViews
import Derived.JoinedTies
import Derived.KernelRfl
namespace Go.Proofs.Qxb6606012a
/- THE CELL 'sum', in the pinned program and in every row, IS THE sha256 OF THE DUMP (.gsa) THAT Qxb6606012aProg.lean LOADS. Nothing in Lean hashes anything: it is a label: what it is worth is what the hold of that sum in a sandbox is worth. -/
noncomputable def Try.pinned : Pinned := { name := "qxb6606012a", sum := "5796f6f457d1209efaf4f7afd68685fbdee02335b85ca232d83caa1b51b272d5", checked := Try.checked }
namespace Rows
def none {H : Type} : Left H := { results := [], args := [] }

/-- 'zzlaws_root_b1.FnClosingQuoteMatchesLexer': WHATEVER THE INPUT: true; the input reads as it did. -/
def fnClosingQuoteMatchesLexerSpec : ChangeSpec := { name := "fnClosingQuoteMatchesLexer", fn := fun _ => fun
  | [d1, d2, d3] => { results := [.lit (.bool true)], args := [d1, d2, d3] }
  | _ => none }
def fnClosingQuoteMatchesLexerRow : OpenClaim := { program := "qxb6606012a", sum := "5796f6f457d1209efaf4f7afd68685fbdee02335b85ca232d83caa1b51b272d5", func := "example.com/kinship/kinship/zzlaws_root_b1.FnClosingQuoteMatchesLexer", spec := "fnClosingQuoteMatchesLexer", apart := false }
def FnClosingQuoteMatchesLexerSaid : Prop := fnClosingQuoteMatchesLexerRow.holds Try.pinned (OpenSpec.ofChange fnClosingQuoteMatchesLexerSpec)

/-- ITS FALSE NEIGHBOUR: 'it returns false'. Refute it at one input. -/
def fnClosingQuoteMatchesLexerWrong : ChangeSpec := { name := "fnClosingQuoteMatchesLexer", fn := fun _ => fun
  | [d1, d2, d3] => { results := [.lit (.bool false)], args := [d1, d2, d3] }
  | _ => none }
def FnClosingQuoteMatchesLexerWrongFalsely : Prop := fnClosingQuoteMatchesLexerRow.holds Try.pinned (OpenSpec.ofChange fnClosingQuoteMatchesLexerWrong)

/-- 'zzlaws_root_b1.FnClosingQuoteFindsEndOfQuoted': WHATEVER THE INPUT: true; the input reads as it did. -/
def fnClosingQuoteFindsEndOfQuotedSpec : ChangeSpec := { name := "fnClosingQuoteFindsEndOfQuoted", fn := fun _ => fun
  | [d1, d2, d3, d4, d5] => { results := [.lit (.bool true)], args := [d1, d2, d3, d4, d5] }
  | _ => none }
def fnClosingQuoteFindsEndOfQuotedRow : OpenClaim := { program := "qxb6606012a", sum := "5796f6f457d1209efaf4f7afd68685fbdee02335b85ca232d83caa1b51b272d5", func := "example.com/kinship/kinship/zzlaws_root_b1.FnClosingQuoteFindsEndOfQuoted", spec := "fnClosingQuoteFindsEndOfQuoted", apart := false }
def FnClosingQuoteFindsEndOfQuotedSaid : Prop := fnClosingQuoteFindsEndOfQuotedRow.holds Try.pinned (OpenSpec.ofChange fnClosingQuoteFindsEndOfQuotedSpec)

/-- ITS FALSE NEIGHBOUR: 'it returns false'. Refute it at one input. -/
def fnClosingQuoteFindsEndOfQuotedWrong : ChangeSpec := { name := "fnClosingQuoteFindsEndOfQuoted", fn := fun _ => fun
  | [d1, d2, d3, d4, d5] => { results := [.lit (.bool false)], args := [d1, d2, d3, d4, d5] }
  | _ => none }
def FnClosingQuoteFindsEndOfQuotedWrongFalsely : Prop := fnClosingQuoteFindsEndOfQuotedRow.holds Try.pinned (OpenSpec.ofChange fnClosingQuoteFindsEndOfQuotedWrong)

/-- 'zzlaws_root_b1.FnWhereKeepsEveryConditionInOrder': WHATEVER THE INPUT: true; the input reads as it did. -/
def fnWhereKeepsEveryConditionInOrderSpec : ChangeSpec := { name := "fnWhereKeepsEveryConditionInOrder", fn := fun _ => fun
  | [d] => { results := [.lit (.bool true)], args := [d] }
  | _ => none }
def fnWhereKeepsEveryConditionInOrderRow : OpenClaim := { program := "qxb6606012a", sum := "5796f6f457d1209efaf4f7afd68685fbdee02335b85ca232d83caa1b51b272d5", func := "example.com/kinship/kinship/zzlaws_root_b1.FnWhereKeepsEveryConditionInOrder", spec := "fnWhereKeepsEveryConditionInOrder", unfollowed := true, recurses := true, apart := false }
def FnWhereKeepsEveryConditionInOrderSaid : Prop := fnWhereKeepsEveryConditionInOrderRow.holds Try.pinned (OpenSpec.ofChange fnWhereKeepsEveryConditionInOrderSpec)

/-- ITS FALSE NEIGHBOUR: 'it returns false'. Refute it at one input. -/
def fnWhereKeepsEveryConditionInOrderWrong : ChangeSpec := { name := "fnWhereKeepsEveryConditionInOrder", fn := fun _ => fun
  | [d] => { results := [.lit (.bool false)], args := [d] }
  | _ => none }
def FnWhereKeepsEveryConditionInOrderWrongFalsely : Prop := fnWhereKeepsEveryConditionInOrderRow.holds Try.pinned (OpenSpec.ofChange fnWhereKeepsEveryConditionInOrderWrong)

end Rows
end Go.Proofs.Qxb6606012a
