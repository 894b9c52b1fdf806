/-
  DERIVED. GIVEN WITH THE SEED: THE CARDS: each row of Qxb6609099aFmtRows.lean that lists a variable, with what it lists TIED to the program's text (the seventh form; the later family's looks); each row that meets fmt, with fmt's text TOLD by the authors' own Lean function (tested against real Go, not proved from fmt's source: count such statements apart). THE CARD IS WHAT COUNTS. Prove the row's statement (the work); the ties are given (Qxb6609099aFmtTie.lean); close each card by the builder's one call (the guide's Derived/Test/ToyasCard.lean, 'card_holds'). Laid BY PROGRAM, IN A SANDBOX (cutbox-door.mjs). By AI agents, Wed Nov 11 2026. No macro, syntax, notation, axiom, sorry.
-/
import Derived.Test.Qxb6609099aFmtRows
import GoSem.ClaimSeven
namespace Go.Proofs.Qxb6609099aFmt
namespace Rows

/-- THE TOLD CARD OF 'zzlaws_layout_b1.FnSeccompFilterExact'. -/
def fnSeccompFilterExactCard : Claim7 := { stood := { row := fnSeccompFilterExactRow, standIns := [], harness := (true, "7021833080be8b16a37cb63ee0fddbc5ffe637dfc147f3e434111edc57d70dc8"), looks := false }, told := true, goes := false }
def FnSeccompFilterExactToldSaid : Prop := Claim7.holds Tryf.pinned (.plain (OpenSpec.ofChange fnSeccompFilterExactSpec)) fnSeccompFilterExactCard
/-- ITS FALSE NEIGHBOUR. Refute it at one input. -/
def FnSeccompFilterExactToldWrongFalsely : Prop := Claim7.holds Tryf.pinned (.plain (OpenSpec.ofChange fnSeccompFilterExactWrong)) fnSeccompFilterExactCard

/-- THE TOLD AND TIED CARD OF 'zzlaws_layout_b1.FnSeccompFilterAgreesWithPackageMountDir'. -/
def fnSeccompFilterAgreesWithPackageMountDirCard : Claim7 := { stood := { row := fnSeccompFilterAgreesWithPackageMountDirRow, standIns := [], harness := (true, "7021833080be8b16a37cb63ee0fddbc5ffe637dfc147f3e434111edc57d70dc8"), looks := false }, told := true, laidByText := true, laidKinds := [.data, .data, .data], laidTests := true, laidLooks := .later, goes := false }
def FnSeccompFilterAgreesWithPackageMountDirToldSaid : Prop := Claim7.holds Tryf.pinned (.plain (OpenSpec.ofChange fnSeccompFilterAgreesWithPackageMountDirSpec)) fnSeccompFilterAgreesWithPackageMountDirCard
/-- ITS FALSE NEIGHBOUR. Refute it at one input. -/
def FnSeccompFilterAgreesWithPackageMountDirToldWrongFalsely : Prop := Claim7.holds Tryf.pinned (.plain (OpenSpec.ofChange fnSeccompFilterAgreesWithPackageMountDirWrong)) fnSeccompFilterAgreesWithPackageMountDirCard

/-- THE TOLD AND TIED CARD OF 'zzlaws_layout_b1.FnPackageMountDirExact'. -/
def fnPackageMountDirExactCard : Claim7 := { stood := { row := fnPackageMountDirExactRow, standIns := [], harness := (true, "7021833080be8b16a37cb63ee0fddbc5ffe637dfc147f3e434111edc57d70dc8"), looks := false }, told := true, laidByText := true, laidKinds := [.data, .data, .data], laidTests := true, laidLooks := .later, goes := false }
def FnPackageMountDirExactToldSaid : Prop := Claim7.holds Tryf.pinned (.plain (OpenSpec.ofChange fnPackageMountDirExactSpec)) fnPackageMountDirExactCard
/-- ITS FALSE NEIGHBOUR. Refute it at one input. -/
def FnPackageMountDirExactToldWrongFalsely : Prop := Claim7.holds Tryf.pinned (.plain (OpenSpec.ofChange fnPackageMountDirExactWrong)) fnPackageMountDirExactCard

/-- THE TOLD AND TIED CARD OF 'zzlaws_layout_b1.FnPackageMountDirRevisions'. -/
def fnPackageMountDirRevisionsCard : Claim7 := { stood := { row := fnPackageMountDirRevisionsRow, standIns := [], harness := (true, "7021833080be8b16a37cb63ee0fddbc5ffe637dfc147f3e434111edc57d70dc8"), looks := false }, told := true, laidByText := true, laidKinds := [.data, .data, .data], laidTests := true, laidLooks := .later, goes := false }
def FnPackageMountDirRevisionsToldSaid : Prop := Claim7.holds Tryf.pinned (.plain (OpenSpec.ofChange fnPackageMountDirRevisionsSpec)) fnPackageMountDirRevisionsCard
/-- ITS FALSE NEIGHBOUR. Refute it at one input. -/
def FnPackageMountDirRevisionsToldWrongFalsely : Prop := Claim7.holds Tryf.pinned (.plain (OpenSpec.ofChange fnPackageMountDirRevisionsWrong)) fnPackageMountDirRevisionsCard
end Rows
end Go.Proofs.Qxb6609099aFmt
