/-
  DERIVED. GIVEN WITH THE SEED: THE CARDS: each row of Qxb6609003aFmtRows.lean that lists a variable, with what it lists TIED to the program's text (the seventh form; the later family's looks); each row that meets fmt, with fmt's text TOLD by the authors' own Lean function (tested against real Go, not proved from fmt's source: count such statements apart). THE CARD IS WHAT COUNTS. Prove the row's statement (the work); the ties are given (Qxb6609003aFmtTie.lean); close each card by the builder's one call (the guide's Derived/Test/ToyasCard.lean, 'card_holds'). Laid BY PROGRAM, IN A SANDBOX (cutbox-door.mjs). By AI agents, Wed Nov 11 2026. No macro, syntax, notation, axiom, sorry.
-/
import Derived.Test.Qxb6609003aFmtRows
import GoSem.ClaimSeven
namespace Go.Proofs.Qxb6609003aFmt
namespace Rows

/-- THE TOLD CARD OF 'zzlaws_root_b1.FnPositionSplitsAtAnyCut'. -/
def fnPositionSplitsAtAnyCutCard : Claim7 := { stood := { row := fnPositionSplitsAtAnyCutRow, standIns := [], harness := (true, "d2fe3d77410a4278b48f99edb64bbc71f4d27a4226dee7e63d293cd5f201b1c3"), looks := false }, told := true, goes := false }
def FnPositionSplitsAtAnyCutToldSaid : Prop := Claim7.holds Tryf.pinned (.plain (OpenSpec.ofChange fnPositionSplitsAtAnyCutSpec)) fnPositionSplitsAtAnyCutCard
/-- ITS FALSE NEIGHBOUR. Refute it at one input. -/
def FnPositionSplitsAtAnyCutToldWrongFalsely : Prop := Claim7.holds Tryf.pinned (.plain (OpenSpec.ofChange fnPositionSplitsAtAnyCutWrong)) fnPositionSplitsAtAnyCutCard

/-- THE TOLD CARD OF 'zzlaws_root_b1.FnPositionAfterAPrefixedLine'. -/
def fnPositionAfterAPrefixedLineCard : Claim7 := { stood := { row := fnPositionAfterAPrefixedLineRow, standIns := [], harness := (true, "d2fe3d77410a4278b48f99edb64bbc71f4d27a4226dee7e63d293cd5f201b1c3"), looks := false }, told := true, goes := false }
def FnPositionAfterAPrefixedLineToldSaid : Prop := Claim7.holds Tryf.pinned (.plain (OpenSpec.ofChange fnPositionAfterAPrefixedLineSpec)) fnPositionAfterAPrefixedLineCard
/-- ITS FALSE NEIGHBOUR. Refute it at one input. -/
def FnPositionAfterAPrefixedLineToldWrongFalsely : Prop := Claim7.holds Tryf.pinned (.plain (OpenSpec.ofChange fnPositionAfterAPrefixedLineWrong)) fnPositionAfterAPrefixedLineCard
end Rows
end Go.Proofs.Qxb6609003aFmt
