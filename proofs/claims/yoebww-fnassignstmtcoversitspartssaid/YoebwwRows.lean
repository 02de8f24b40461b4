/-
  No cell of these rows narrows 'for every input' (looked for: loops, veiled, ifaces, maps, wideKeys, modest, calm, conditions, laid).
  DERIVED. THE GIVEN ROWS OF THIS SEAT. 3 by the template 'for every input the law returns true; each argument reads behind the call as it read before'; 0 by the template 'total and deterministic' (their statements: YoebwwTotals.lean).
  GIVEN WITH THE SEED: the statements are not yours to turn. If you find one false, say at which input.
  Laid BY PROGRAM, IN A SANDBOX (cutbox-rows.mjs): the forced cells as the released guide's own fill.sh prints them over the translation aae1f9229aa3f77b… (all of the seat's roots in one cut). By AI agents, Wed Nov 11 2026. No macro, syntax, notation, axiom, sorry.
-/
import Derived.Test.YoebwwChecked
import GoSem.Claim
import GoSem.ClaimJoined
import GoSem.ClaimMapViews
import Derived.JoinedTies
import Derived.KernelRfl
namespace Go.Proofs.Yoebww
/- THE CELL 'sum', in the pinned program and in every row, IS THE sha256 OF THE DUMP (.gsa) THAT YoebwwProg.lean LOADS. Nothing in Lean hashes anything: it is a label: what it is worth is what the hold of that sum in a sandbox is worth. -/
noncomputable def Ebwg.pinned : Pinned := { name := "yoebww", sum := "aae1f9229aa3f77b560f96a57e12f9da1b131233c3c97a97ebf1306eb9574794", checked := Ebwg.checked }
namespace Rows
def none {H : Type} : Left H := { results := [], args := [] }

/-- 'zzlaws_parser_b51.FnSearchIntsSortedIsLastAtMost': WHATEVER THE INPUT: true; the input reads as it did. -/
def fnSearchIntsSortedIsLastAtMostSpec : ChangeSpec := { name := "fnSearchIntsSortedIsLastAtMost", fn := fun _ => fun
  | [d1, d2] => { results := [.lit (.bool true)], args := [d1, d2] }
  | _ => none }
def fnSearchIntsSortedIsLastAtMostRow : OpenClaim := { program := "yoebww", sum := "aae1f9229aa3f77b560f96a57e12f9da1b131233c3c97a97ebf1306eb9574794", func := "github.com/d5/tengo/v2/zzlaws_parser_b51.FnSearchIntsSortedIsLastAtMost", spec := "fnSearchIntsSortedIsLastAtMost", apart := false }
def FnSearchIntsSortedIsLastAtMostSaid : Prop := fnSearchIntsSortedIsLastAtMostRow.holds Ebwg.pinned (OpenSpec.ofChange fnSearchIntsSortedIsLastAtMostSpec)

/-- ITS FALSE NEIGHBOUR: 'it returns false'. Refute it at one input. -/
def fnSearchIntsSortedIsLastAtMostWrong : ChangeSpec := { name := "fnSearchIntsSortedIsLastAtMost", fn := fun _ => fun
  | [d1, d2] => { results := [.lit (.bool false)], args := [d1, d2] }
  | _ => none }
def FnSearchIntsSortedIsLastAtMostWrongFalsely : Prop := fnSearchIntsSortedIsLastAtMostRow.holds Ebwg.pinned (OpenSpec.ofChange fnSearchIntsSortedIsLastAtMostWrong)

/-- 'zzlaws_parser_b51.FnSearchIntsBoundaryAnyInput': WHATEVER THE INPUT: true; the input reads as it did. -/
def fnSearchIntsBoundaryAnyInputSpec : ChangeSpec := { name := "fnSearchIntsBoundaryAnyInput", fn := fun _ => fun
  | [d1, d2] => { results := [.lit (.bool true)], args := [d1, d2] }
  | _ => none }
def fnSearchIntsBoundaryAnyInputRow : OpenClaim := { program := "yoebww", sum := "aae1f9229aa3f77b560f96a57e12f9da1b131233c3c97a97ebf1306eb9574794", func := "github.com/d5/tengo/v2/zzlaws_parser_b51.FnSearchIntsBoundaryAnyInput", spec := "fnSearchIntsBoundaryAnyInput", apart := false }
def FnSearchIntsBoundaryAnyInputSaid : Prop := fnSearchIntsBoundaryAnyInputRow.holds Ebwg.pinned (OpenSpec.ofChange fnSearchIntsBoundaryAnyInputSpec)

/-- ITS FALSE NEIGHBOUR: 'it returns false'. Refute it at one input. -/
def fnSearchIntsBoundaryAnyInputWrong : ChangeSpec := { name := "fnSearchIntsBoundaryAnyInput", fn := fun _ => fun
  | [d1, d2] => { results := [.lit (.bool false)], args := [d1, d2] }
  | _ => none }
def FnSearchIntsBoundaryAnyInputWrongFalsely : Prop := fnSearchIntsBoundaryAnyInputRow.holds Ebwg.pinned (OpenSpec.ofChange fnSearchIntsBoundaryAnyInputWrong)

/-- 'zzlaws_parser_b51.FnAssignStmtCoversItsParts': WHATEVER THE INPUT: true; the input reads as it did. -/
def fnAssignStmtCoversItsPartsSpec : ChangeSpec := { name := "fnAssignStmtCoversItsParts", fn := fun _ => fun
  | [d1, d2, d3, d4, d5, d6, d7, d8, d9] => { results := [.lit (.bool true)], args := [d1, d2, d3, d4, d5, d6, d7, d8, d9] }
  | _ => none }
def fnAssignStmtCoversItsPartsRow : OpenClaim := { program := "yoebww", sum := "aae1f9229aa3f77b560f96a57e12f9da1b131233c3c97a97ebf1306eb9574794", func := "github.com/d5/tengo/v2/zzlaws_parser_b51.FnAssignStmtCoversItsParts", spec := "fnAssignStmtCoversItsParts", unfollowed := true, recurses := true, apart := false }
def FnAssignStmtCoversItsPartsSaid : Prop := fnAssignStmtCoversItsPartsRow.holds Ebwg.pinned (OpenSpec.ofChange fnAssignStmtCoversItsPartsSpec)

/-- ITS FALSE NEIGHBOUR: 'it returns false'. Refute it at one input. -/
def fnAssignStmtCoversItsPartsWrong : ChangeSpec := { name := "fnAssignStmtCoversItsParts", fn := fun _ => fun
  | [d1, d2, d3, d4, d5, d6, d7, d8, d9] => { results := [.lit (.bool false)], args := [d1, d2, d3, d4, d5, d6, d7, d8, d9] }
  | _ => none }
def FnAssignStmtCoversItsPartsWrongFalsely : Prop := fnAssignStmtCoversItsPartsRow.holds Ebwg.pinned (OpenSpec.ofChange fnAssignStmtCoversItsPartsWrong)

end Rows
end Go.Proofs.Yoebww
