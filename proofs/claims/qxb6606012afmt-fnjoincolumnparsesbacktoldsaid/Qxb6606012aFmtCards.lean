/-
  DERIVED. GIVEN WITH THE SEED: THE CARDS: each row of Qxb6606012aFmtRows.lean that lists a variable, with what it lists TIED to the program's text (the seventh form; the later family's looks); each row that meets fmt, with fmt's text TOLD by the authors' own Lean function (tested against real Go, not proved from fmt's source: count such statements apart). THE CARD IS WHAT COUNTS. Prove the row's statement (the work); the ties are given (Qxb6606012aFmtTie.lean); close each card by the builder's one call (the guide's Derived/Test/ToyasCard.lean, 'card_holds'). Laid BY PROGRAM, IN A SANDBOX (cutbox-door.mjs). By AI agents, Wed Nov 11 2026. No macro, syntax, notation, axiom, sorry.
-/
import Derived.Test.Qxb6606012aFmtRows
import GoSem.ClaimSeven
namespace Go.Proofs.Qxb6606012aFmt
namespace Rows

/-- THE TOLD CARD OF 'zzlaws_root_b1.FnJoinColumnParsesBack'. -/
def fnJoinColumnParsesBackCard : Claim7 := { stood := { row := fnJoinColumnParsesBackRow, standIns := [], harness := (true, "4699e4a0045d65e12ea44582fbfb0164faafd76ea439d1fcea388f9ada8fc156"), looks := false }, told := true, goes := false }
def FnJoinColumnParsesBackToldSaid : Prop := Claim7.holds Tryf.pinned (.plain (OpenSpec.ofChange fnJoinColumnParsesBackSpec)) fnJoinColumnParsesBackCard
/-- ITS FALSE NEIGHBOUR. Refute it at one input. -/
def FnJoinColumnParsesBackToldWrongFalsely : Prop := Claim7.holds Tryf.pinned (.plain (OpenSpec.ofChange fnJoinColumnParsesBackWrong)) fnJoinColumnParsesBackCard

/-- THE TOLD CARD OF 'zzlaws_root_b1.FnJoinColumnInjective'. -/
def fnJoinColumnInjectiveCard : Claim7 := { stood := { row := fnJoinColumnInjectiveRow, standIns := [], harness := (true, "4699e4a0045d65e12ea44582fbfb0164faafd76ea439d1fcea388f9ada8fc156"), looks := false }, told := true, goes := false }
def FnJoinColumnInjectiveToldSaid : Prop := Claim7.holds Tryf.pinned (.plain (OpenSpec.ofChange fnJoinColumnInjectiveSpec)) fnJoinColumnInjectiveCard
/-- ITS FALSE NEIGHBOUR. Refute it at one input. -/
def FnJoinColumnInjectiveToldWrongFalsely : Prop := Claim7.holds Tryf.pinned (.plain (OpenSpec.ofChange fnJoinColumnInjectiveWrong)) fnJoinColumnInjectiveCard
end Rows
end Go.Proofs.Qxb6606012aFmt
