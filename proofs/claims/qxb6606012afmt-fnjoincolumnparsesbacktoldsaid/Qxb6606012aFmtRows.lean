/-
  No cell of these rows narrows 'for every input' (looked for: loops, veiled, ifaces, maps, wideKeys, modest, calm, conditions, laid).
  DERIVED. THE GIVEN ROWS OF THIS SEAT. 2 by the template 'for every input the law returns true; each argument reads behind the call as it read before'; 0 by the template 'total and deterministic' (their statements: Qxb6606012aFmtTotals.lean).
  GIVEN WITH THE SEED: the statements are not yours to turn. If you find one false, say at which input.
  Laid BY PROGRAM, IN A SANDBOX (cutbox-rows.mjs): the forced cells as the released guide's own fill.sh prints them over the translation 16d9abf474780e6d… (all of the seat's roots in one cut). By AI agents, Wed Nov 11 2026. No macro, syntax, notation, axiom, sorry.
-/
import Derived.Test.Qxb6606012aFmtChecked
import GoSem.Claim
import GoSem.ClaimJoined
import GoSem.ClaimMapViews
import Derived.JoinedTies
import Derived.KernelRfl
namespace Go.Proofs.Qxb6606012aFmt
/- THE CELL 'sum', in the pinned program and in every row, IS THE sha256 OF THE DUMP (.gsa) THAT Qxb6606012aFmtProg.lean LOADS. Nothing in Lean hashes anything: it is a label: what it is worth is what the hold of that sum in a sandbox is worth. -/
noncomputable def Tryf.pinned : Pinned := { name := "qxb6606012afmt", sum := "16d9abf474780e6d5a2b32942ee3ab7014ab9db7f842de365cc602aa4e0b4283", checked := Tryf.checked }
namespace Rows
def none {H : Type} : Left H := { results := [], args := [] }

/-- 'zzlaws_root_b1.FnJoinColumnParsesBack': WHATEVER THE INPUT: true; the input reads as it did. -/
def fnJoinColumnParsesBackSpec : ChangeSpec := { name := "fnJoinColumnParsesBack", fn := fun _ => fun
  | [d1, d2] => { results := [.lit (.bool true)], args := [d1, d2] }
  | _ => none }
def fnJoinColumnParsesBackRow : OpenClaim := { program := "qxb6606012afmt", sum := "16d9abf474780e6d5a2b32942ee3ab7014ab9db7f842de365cc602aa4e0b4283", func := "example.com/kinship/kinship/zzlaws_root_b1.FnJoinColumnParsesBack", spec := "fnJoinColumnParsesBack", stops := ["fmt.Sprintf"], inPlace := ["fmt.Sprintf"], apart := false }
/-- NO THEOREM (fmt's text is open here; it may be false): for the released tool's asking of the row's closed facts alone. THE STATEMENT IS 'FnJoinColumnParsesBackToldSaid' (Qxb6606012aFmtCards.lean). -/
def FnJoinColumnParsesBackFormAsk : Prop := fnJoinColumnParsesBackRow.holds Tryf.pinned (OpenSpec.ofChange fnJoinColumnParsesBackSpec)

/-- ITS FALSE NEIGHBOUR: 'it returns false'. Refute it at one input. -/
def fnJoinColumnParsesBackWrong : ChangeSpec := { name := "fnJoinColumnParsesBack", fn := fun _ => fun
  | [d1, d2] => { results := [.lit (.bool false)], args := [d1, d2] }
  | _ => none }
def FnJoinColumnParsesBackWrongFormAsk : Prop := fnJoinColumnParsesBackRow.holds Tryf.pinned (OpenSpec.ofChange fnJoinColumnParsesBackWrong)

/-- 'zzlaws_root_b1.FnJoinColumnInjective': WHATEVER THE INPUT: true; the input reads as it did. -/
def fnJoinColumnInjectiveSpec : ChangeSpec := { name := "fnJoinColumnInjective", fn := fun _ => fun
  | [d1, d2, d3, d4] => { results := [.lit (.bool true)], args := [d1, d2, d3, d4] }
  | _ => none }
def fnJoinColumnInjectiveRow : OpenClaim := { program := "qxb6606012afmt", sum := "16d9abf474780e6d5a2b32942ee3ab7014ab9db7f842de365cc602aa4e0b4283", func := "example.com/kinship/kinship/zzlaws_root_b1.FnJoinColumnInjective", spec := "fnJoinColumnInjective", stops := ["fmt.Sprintf"], inPlace := ["fmt.Sprintf"], apart := false }
/-- NO THEOREM (fmt's text is open here; it may be false): for the released tool's asking of the row's closed facts alone. THE STATEMENT IS 'FnJoinColumnInjectiveToldSaid' (Qxb6606012aFmtCards.lean). -/
def FnJoinColumnInjectiveFormAsk : Prop := fnJoinColumnInjectiveRow.holds Tryf.pinned (OpenSpec.ofChange fnJoinColumnInjectiveSpec)

/-- ITS FALSE NEIGHBOUR: 'it returns false'. Refute it at one input. -/
def fnJoinColumnInjectiveWrong : ChangeSpec := { name := "fnJoinColumnInjective", fn := fun _ => fun
  | [d1, d2, d3, d4] => { results := [.lit (.bool false)], args := [d1, d2, d3, d4] }
  | _ => none }
def FnJoinColumnInjectiveWrongFormAsk : Prop := fnJoinColumnInjectiveRow.holds Tryf.pinned (OpenSpec.ofChange fnJoinColumnInjectiveWrong)

end Rows
end Go.Proofs.Qxb6606012aFmt
