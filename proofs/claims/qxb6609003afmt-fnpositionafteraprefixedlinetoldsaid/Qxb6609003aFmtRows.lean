/-
  No cell of these rows narrows 'for every input' (looked for: loops, veiled, ifaces, maps, wideKeys, modest, calm, conditions, laid).
  DERIVED. THE GIVEN ROWS OF THIS SEAT. 2 by the template 'for every input the law returns true; each argument reads behind the call as it read before'; 0 by the template 'total and deterministic' (their statements: Qxb6609003aFmtTotals.lean).
  GIVEN WITH THE SEED: the statements are not yours to turn. If you find one false, say at which input.
  Laid BY PROGRAM, IN A SANDBOX (cutbox-rows.mjs): the forced cells as the released guide's own fill.sh prints them over the translation 956269ab553c3043… (all of the seat's roots in one cut). By AI agents, Wed Nov 11 2026. No macro, syntax, notation, axiom, sorry.
-/
import Derived.Test.Qxb6609003aFmtChecked
import GoSem.Claim
import GoSem.ClaimJoined
import GoSem.ClaimMapViews
import Derived.JoinedTies
import Derived.KernelRfl
namespace Go.Proofs.Qxb6609003aFmt
/- THE CELL 'sum', in the pinned program and in every row, IS THE sha256 OF THE DUMP (.gsa) THAT Qxb6609003aFmtProg.lean LOADS. Nothing in Lean hashes anything: it is a label: what it is worth is what the hold of that sum in a sandbox is worth. -/
noncomputable def Tryf.pinned : Pinned := { name := "qxb6609003afmt", sum := "956269ab553c30438ae48de482ab737c69437337445975f04687aaacbb419c01", checked := Tryf.checked }
namespace Rows
def none {H : Type} : Left H := { results := [], args := [] }

/-- 'zzlaws_root_b1.FnPositionSplitsAtAnyCut': WHATEVER THE INPUT: true; the input reads as it did. -/
def fnPositionSplitsAtAnyCutSpec : ChangeSpec := { name := "fnPositionSplitsAtAnyCut", fn := fun _ => fun
  | [d1, d2, d3] => { results := [.lit (.bool true)], args := [d1, d2, d3] }
  | _ => none }
def fnPositionSplitsAtAnyCutRow : OpenClaim := { program := "qxb6609003afmt", sum := "956269ab553c30438ae48de482ab737c69437337445975f04687aaacbb419c01", func := "example.com/eelgrass/eelgrass/zzlaws_root_b1.FnPositionSplitsAtAnyCut", spec := "fnPositionSplitsAtAnyCut", stops := ["fmt.Sprintf"], inPlace := ["internal/bytealg.Count", "internal/bytealg.IndexByte", "internal/bytealg.Index", "fmt.Sprintf"], named := ["internal/bytealg.MaxLen"], apart := false }
/-- NO THEOREM (fmt's text is open here; it may be false): for the released tool's asking of the row's closed facts alone. THE STATEMENT IS 'FnPositionSplitsAtAnyCutToldSaid' (Qxb6609003aFmtCards.lean). -/
def FnPositionSplitsAtAnyCutFormAsk : Prop := fnPositionSplitsAtAnyCutRow.holds Tryf.pinned (OpenSpec.ofChange fnPositionSplitsAtAnyCutSpec)

/-- ITS FALSE NEIGHBOUR: 'it returns false'. Refute it at one input. -/
def fnPositionSplitsAtAnyCutWrong : ChangeSpec := { name := "fnPositionSplitsAtAnyCut", fn := fun _ => fun
  | [d1, d2, d3] => { results := [.lit (.bool false)], args := [d1, d2, d3] }
  | _ => none }
def FnPositionSplitsAtAnyCutWrongFormAsk : Prop := fnPositionSplitsAtAnyCutRow.holds Tryf.pinned (OpenSpec.ofChange fnPositionSplitsAtAnyCutWrong)

/-- 'zzlaws_root_b1.FnPositionAfterAPrefixedLine': WHATEVER THE INPUT: true; the input reads as it did. -/
def fnPositionAfterAPrefixedLineSpec : ChangeSpec := { name := "fnPositionAfterAPrefixedLine", fn := fun _ => fun
  | [d1, d2, d3] => { results := [.lit (.bool true)], args := [d1, d2, d3] }
  | _ => none }
def fnPositionAfterAPrefixedLineRow : OpenClaim := { program := "qxb6609003afmt", sum := "956269ab553c30438ae48de482ab737c69437337445975f04687aaacbb419c01", func := "example.com/eelgrass/eelgrass/zzlaws_root_b1.FnPositionAfterAPrefixedLine", spec := "fnPositionAfterAPrefixedLine", stops := ["fmt.Sprintf"], inPlace := ["internal/bytealg.Count", "internal/bytealg.IndexByte", "internal/bytealg.Index", "fmt.Sprintf"], named := ["internal/bytealg.MaxLen"], apart := false }
/-- NO THEOREM (fmt's text is open here; it may be false): for the released tool's asking of the row's closed facts alone. THE STATEMENT IS 'FnPositionAfterAPrefixedLineToldSaid' (Qxb6609003aFmtCards.lean). -/
def FnPositionAfterAPrefixedLineFormAsk : Prop := fnPositionAfterAPrefixedLineRow.holds Tryf.pinned (OpenSpec.ofChange fnPositionAfterAPrefixedLineSpec)

/-- ITS FALSE NEIGHBOUR: 'it returns false'. Refute it at one input. -/
def fnPositionAfterAPrefixedLineWrong : ChangeSpec := { name := "fnPositionAfterAPrefixedLine", fn := fun _ => fun
  | [d1, d2, d3] => { results := [.lit (.bool false)], args := [d1, d2, d3] }
  | _ => none }
def FnPositionAfterAPrefixedLineWrongFormAsk : Prop := fnPositionAfterAPrefixedLineRow.holds Tryf.pinned (OpenSpec.ofChange fnPositionAfterAPrefixedLineWrong)

end Rows
end Go.Proofs.Qxb6609003aFmt
