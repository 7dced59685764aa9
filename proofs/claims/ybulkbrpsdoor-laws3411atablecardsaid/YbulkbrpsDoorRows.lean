/-
  NARROWER THAN 'FOR EVERY INPUT', by the rows' own cells (each row's printed sentence says how): LawS3411ATable: laid · LawS3411ARaw: laid · LawS3411BIndex: laid · LawS3411BModel: laid · LawS3411BRoundTrip: laid.
  DERIVED. THE GIVEN ROWS OF THIS SEAT. 5 by the template 'for every input the law returns true; each argument reads behind the call as it read before'; 0 by the template 'total and deterministic' (their statements: YbulkbrpsDoorTotals.lean).
  GIVEN WITH THE SEED: the statements are not yours to turn. If you find one false, say at which input.
  Laid BY PROGRAM, IN A SANDBOX (cutbox-rows.mjs): the forced cells as the released guide's own fill.sh prints them over the translation 0181d694c45c3b9b… (all of the seat's roots in one cut). By AI agents, Wed Nov 11 2026. No macro, syntax, notation, axiom, sorry.
-/
import Derived.Test.YbulkbrpsDoorChecked
import GoSem.Claim
import GoSem.ClaimJoined
import GoSem.ClaimMapViews
import Derived.JoinedTies
import Derived.KernelRfl
namespace Go.Proofs.YbulkbrpsDoor
/- THE CELL 'sum', in the pinned program and in every row, IS THE sha256 OF THE DUMP (.gsa) THAT YbulkbrpsDoorProg.lean LOADS. Nothing in Lean hashes anything: it is a label: what it is worth is what the hold of that sum in a sandbox is worth. -/
noncomputable def Ybad.pinned : Pinned := { name := "ybulkbrpsdoor", sum := "0181d694c45c3b9b8f5b384890936401b72ac4765bfa8d7a842df2ed48b3716e", checked := Ybad.checked }
namespace Rows
def none {H : Type} : Left H := { results := [], args := [] }

/- WHAT THE LISTED PACKAGE-LEVEL VARIABLES READ AS WHEN THE CALL BEGINS. Each datum BY PROGRAM (the guide's laid-datum.mjs) off the statement by which the dump's own 'gosem.cut.vars' lays the variable. In a bare row this is a premise. The card (YbulkbrpsDoorCards.lean) ties it to the program's text. -/
def laid_example_com_droplens_droplens_record_flowStartNames {H : Type} : DataW H := .agg [.lit (.string [102, 108, 111, 119, 83, 116, 97, 114, 116, 78, 97, 110, 111, 115, 101, 99, 111, 110, 100, 115]), .lit (.string [102, 108, 111, 119, 83, 116, 97, 114, 116, 77, 105, 99, 114, 111, 115, 101, 99, 111, 110, 100, 115]), .lit (.string [102, 108, 111, 119, 83, 116, 97, 114, 116, 77, 105, 108, 108, 105, 115, 101, 99, 111, 110, 100, 115]), .lit (.string [102, 108, 111, 119, 83, 116, 97, 114, 116, 83, 101, 99, 111, 110, 100, 115]), .lit (.string [102, 108, 111, 119, 83, 116, 97, 114, 116, 83, 121, 115, 85, 112, 84, 105, 109, 101])]
def laid_example_com_droplens_droplens_record_flowEndNames {H : Type} : DataW H := .agg [.lit (.string [102, 108, 111, 119, 69, 110, 100, 78, 97, 110, 111, 115, 101, 99, 111, 110, 100, 115]), .lit (.string [102, 108, 111, 119, 69, 110, 100, 77, 105, 99, 114, 111, 115, 101, 99, 111, 110, 100, 115]), .lit (.string [102, 108, 111, 119, 69, 110, 100, 77, 105, 108, 108, 105, 115, 101, 99, 111, 110, 100, 115]), .lit (.string [102, 108, 111, 119, 69, 110, 100, 83, 101, 99, 111, 110, 100, 115]), .lit (.string [102, 108, 111, 119, 69, 110, 100, 83, 121, 115, 85, 112, 84, 105, 109, 101])]
def laid_example_com_droplens_droplens_discard_tree {H : Type} : DataW H := .agg [.lit (.string [108, 50]), .lit (.string [108, 51]), .lit (.string [108, 51, 47, 118, 52]), .lit (.string [108, 51, 47, 118, 52, 47, 117, 110, 105, 99, 97, 115, 116]), .lit (.string [108, 51, 47, 118, 52, 47, 109, 117, 108, 116, 105, 99, 97, 115, 116]), .lit (.string [108, 51, 47, 118, 54]), .lit (.string [108, 51, 47, 118, 54, 47, 117, 110, 105, 99, 97, 115, 116]), .lit (.string [108, 51, 47, 118, 54, 47, 109, 117, 108, 116, 105, 99, 97, 115, 116]), .lit (.string [101, 114, 114, 111, 114, 115]), .lit (.string [101, 114, 114, 111, 114, 115, 47, 108, 50]), .lit (.string [101, 114, 114, 111, 114, 115, 47, 108, 50, 47, 114, 120]), .lit (.string [101, 114, 114, 111, 114, 115, 47, 108, 50, 47, 114, 120, 47, 99, 114, 99, 45, 101, 114, 114, 111, 114]), .lit (.string [101, 114, 114, 111, 114, 115, 47, 108, 50, 47, 114, 120, 47, 105, 110, 118, 97, 108, 105, 100, 45, 109, 97, 99]), .lit (.string [101, 114, 114, 111, 114, 115, 47, 108, 50, 47, 114, 120, 47, 105, 110, 118, 97, 108, 105, 100, 45, 118, 108, 97, 110]), .lit (.string [101, 114, 114, 111, 114, 115, 47, 108, 50, 47, 114, 120, 47, 105, 110, 118, 97, 108, 105, 100, 45, 102, 114, 97, 109, 101]), .lit (.string [101, 114, 114, 111, 114, 115, 47, 108, 50, 47, 116, 120]), .lit (.string [101, 114, 114, 111, 114, 115, 47, 108, 51]), .lit (.string [101, 114, 114, 111, 114, 115, 47, 108, 51, 47, 114, 120]), .lit (.string [101, 114, 114, 111, 114, 115, 47, 108, 51, 47, 114, 120, 47, 99, 104, 101, 99, 107, 115, 117, 109, 45, 101, 114, 114, 111, 114]), .lit (.string [101, 114, 114, 111, 114, 115, 47, 108, 51, 47, 114, 120, 47, 109, 116, 117, 45, 101, 120, 99, 101, 101, 100, 101, 100]), .lit (.string [101, 114, 114, 111, 114, 115, 47, 108, 51, 47, 114, 120, 47, 105, 110, 118, 97, 108, 105, 100, 45, 112, 97, 99, 107, 101, 116]), .lit (.string [101, 114, 114, 111, 114, 115, 47, 108, 51, 47, 116, 116, 108, 45, 101, 120, 112, 105, 114, 101, 100]), .lit (.string [101, 114, 114, 111, 114, 115, 47, 108, 51, 47, 110, 111, 45, 114, 111, 117, 116, 101]), .lit (.string [101, 114, 114, 111, 114, 115, 47, 108, 51, 47, 105, 110, 118, 97, 108, 105, 100, 45, 115, 105, 100]), .lit (.string [101, 114, 114, 111, 114, 115, 47, 108, 51, 47, 105, 110, 118, 97, 108, 105, 100, 45, 108, 97, 98, 101, 108]), .lit (.string [101, 114, 114, 111, 114, 115, 47, 108, 51, 47, 116, 120]), .lit (.string [101, 114, 114, 111, 114, 115, 47, 105, 110, 116, 101, 114, 110, 97, 108]), .lit (.string [101, 114, 114, 111, 114, 115, 47, 105, 110, 116, 101, 114, 110, 97, 108, 47, 112, 97, 114, 105, 116, 121, 45, 101, 114, 114, 111, 114]), .lit (.string [112, 111, 108, 105, 99, 121]), .lit (.string [112, 111, 108, 105, 99, 121, 47, 108, 50]), .lit (.string [112, 111, 108, 105, 99, 121, 47, 108, 50, 47, 97, 99, 108]), .lit (.string [112, 111, 108, 105, 99, 121, 47, 108, 51]), .lit (.string [112, 111, 108, 105, 99, 121, 47, 108, 51, 47, 97, 99, 108]), .lit (.string [112, 111, 108, 105, 99, 121, 47, 108, 51, 47, 112, 111, 108, 105, 99, 101, 114]), .lit (.string [112, 111, 108, 105, 99, 121, 47, 108, 51, 47, 110, 117, 108, 108, 45, 114, 111, 117, 116, 101]), .lit (.string [112, 111, 108, 105, 99, 121, 47, 108, 51, 47, 114, 112, 102]), .lit (.string [112, 111, 108, 105, 99, 121, 47, 108, 51, 47, 100, 100, 111, 115]), .lit (.string [110, 111, 45, 98, 117, 102, 102, 101, 114]), .lit (.string [110, 111, 45, 98, 117, 102, 102, 101, 114, 47, 99, 108, 97, 115, 115])]

/-- 'record.LawS3411ATable': WHATEVER THE INPUT: true; the input reads as it did. -/
def lawS3411ATableSpec : ChangeSpec := { name := "lawS3411ATable", vars := ["example.com/droplens/droplens/record.flowStartNames", "example.com/droplens/droplens/record.flowEndNames"], fn := fun _ => fun
  | [d1, d2, g1, g2] => { results := [.lit (.bool true)], args := [d1, d2], vars := [g1, g2] }
  | _ => none }
def lawS3411ATableRow : OpenClaim := { program := "ybulkbrpsdoor", sum := "0181d694c45c3b9b8f5b384890936401b72ac4765bfa8d7a842df2ed48b3716e", func := "example.com/droplens/droplens/record.LawS3411ATable", spec := "lawS3411ATable", named := ["example.com/droplens/droplens/record.flowStartNames", "example.com/droplens/droplens/record.flowEndNames"], apart := false, laid := [("example.com/droplens/droplens/record.flowStartNames", laid_example_com_droplens_droplens_record_flowStartNames), ("example.com/droplens/droplens/record.flowEndNames", laid_example_com_droplens_droplens_record_flowEndNames)] }
def LawS3411ATableSaid : Prop := lawS3411ATableRow.holds Ybad.pinned (OpenSpec.ofChange lawS3411ATableSpec)

/-- ITS FALSE NEIGHBOUR: 'it returns false'. Refute it at one input. -/
def lawS3411ATableWrong : ChangeSpec := { name := "lawS3411ATable", vars := ["example.com/droplens/droplens/record.flowStartNames", "example.com/droplens/droplens/record.flowEndNames"], fn := fun _ => fun
  | [d1, d2, g1, g2] => { results := [.lit (.bool false)], args := [d1, d2], vars := [g1, g2] }
  | _ => none }
def LawS3411ATableWrongFalsely : Prop := lawS3411ATableRow.holds Ybad.pinned (OpenSpec.ofChange lawS3411ATableWrong)

/-- 'record.LawS3411ARaw': WHATEVER THE INPUT: true; the input reads as it did. -/
def lawS3411ARawSpec : ChangeSpec := { name := "lawS3411ARaw", vars := ["example.com/droplens/droplens/record.flowStartNames", "example.com/droplens/droplens/record.flowEndNames"], fn := fun _ => fun
  | [d, g1, g2] => { results := [.lit (.bool true)], args := [d], vars := [g1, g2] }
  | _ => none }
def lawS3411ARawRow : OpenClaim := { program := "ybulkbrpsdoor", sum := "0181d694c45c3b9b8f5b384890936401b72ac4765bfa8d7a842df2ed48b3716e", func := "example.com/droplens/droplens/record.LawS3411ARaw", spec := "lawS3411ARaw", named := ["example.com/droplens/droplens/record.flowStartNames", "example.com/droplens/droplens/record.flowEndNames"], apart := false, laid := [("example.com/droplens/droplens/record.flowStartNames", laid_example_com_droplens_droplens_record_flowStartNames), ("example.com/droplens/droplens/record.flowEndNames", laid_example_com_droplens_droplens_record_flowEndNames)] }
def LawS3411ARawSaid : Prop := lawS3411ARawRow.holds Ybad.pinned (OpenSpec.ofChange lawS3411ARawSpec)

/-- ITS FALSE NEIGHBOUR: 'it returns false'. Refute it at one input. -/
def lawS3411ARawWrong : ChangeSpec := { name := "lawS3411ARaw", vars := ["example.com/droplens/droplens/record.flowStartNames", "example.com/droplens/droplens/record.flowEndNames"], fn := fun _ => fun
  | [d, g1, g2] => { results := [.lit (.bool false)], args := [d], vars := [g1, g2] }
  | _ => none }
def LawS3411ARawWrongFalsely : Prop := lawS3411ARawRow.holds Ybad.pinned (OpenSpec.ofChange lawS3411ARawWrong)

/-- 'discard.LawS3411BIndex': WHATEVER THE INPUT: true; the input reads as it did. -/
def lawS3411BIndexSpec : ChangeSpec := { name := "lawS3411BIndex", vars := ["example.com/droplens/droplens/discard.tree"], fn := fun _ => fun
  | [d, g1] => { results := [.lit (.bool true)], args := [d], vars := [g1] }
  | _ => none }
def lawS3411BIndexRow : OpenClaim := { program := "ybulkbrpsdoor", sum := "0181d694c45c3b9b8f5b384890936401b72ac4765bfa8d7a842df2ed48b3716e", func := "example.com/droplens/droplens/discard.LawS3411BIndex", spec := "lawS3411BIndex", named := ["example.com/droplens/droplens/discard.tree"], apart := false, laid := [("example.com/droplens/droplens/discard.tree", laid_example_com_droplens_droplens_discard_tree)] }
def LawS3411BIndexSaid : Prop := lawS3411BIndexRow.holds Ybad.pinned (OpenSpec.ofChange lawS3411BIndexSpec)

/-- ITS FALSE NEIGHBOUR: 'it returns false'. Refute it at one input. -/
def lawS3411BIndexWrong : ChangeSpec := { name := "lawS3411BIndex", vars := ["example.com/droplens/droplens/discard.tree"], fn := fun _ => fun
  | [d, g1] => { results := [.lit (.bool false)], args := [d], vars := [g1] }
  | _ => none }
def LawS3411BIndexWrongFalsely : Prop := lawS3411BIndexRow.holds Ybad.pinned (OpenSpec.ofChange lawS3411BIndexWrong)

/-- 'discard.LawS3411BModel': WHATEVER THE INPUT: true; the input reads as it did. -/
def lawS3411BModelSpec : ChangeSpec := { name := "lawS3411BModel", vars := ["example.com/droplens/droplens/discard.tree"], fn := fun _ => fun
  | [d1, d2, d3, g1] => { results := [.lit (.bool true)], args := [d1, d2, d3], vars := [g1] }
  | _ => none }
def lawS3411BModelRow : OpenClaim := { program := "ybulkbrpsdoor", sum := "0181d694c45c3b9b8f5b384890936401b72ac4765bfa8d7a842df2ed48b3716e", func := "example.com/droplens/droplens/discard.LawS3411BModel", spec := "lawS3411BModel", named := ["example.com/droplens/droplens/discard.tree"], apart := false, laid := [("example.com/droplens/droplens/discard.tree", laid_example_com_droplens_droplens_discard_tree)] }
def LawS3411BModelSaid : Prop := lawS3411BModelRow.holds Ybad.pinned (OpenSpec.ofChange lawS3411BModelSpec)

/-- ITS FALSE NEIGHBOUR: 'it returns false'. Refute it at one input. -/
def lawS3411BModelWrong : ChangeSpec := { name := "lawS3411BModel", vars := ["example.com/droplens/droplens/discard.tree"], fn := fun _ => fun
  | [d1, d2, d3, g1] => { results := [.lit (.bool false)], args := [d1, d2, d3], vars := [g1] }
  | _ => none }
def LawS3411BModelWrongFalsely : Prop := lawS3411BModelRow.holds Ybad.pinned (OpenSpec.ofChange lawS3411BModelWrong)

/-- 'discard.LawS3411BRoundTrip': WHATEVER THE INPUT: true; the input reads as it did. -/
def lawS3411BRoundTripSpec : ChangeSpec := { name := "lawS3411BRoundTrip", vars := ["example.com/droplens/droplens/discard.tree"], fn := fun _ => fun
  | [d, g1] => { results := [.lit (.bool true)], args := [d], vars := [g1] }
  | _ => none }
def lawS3411BRoundTripRow : OpenClaim := { program := "ybulkbrpsdoor", sum := "0181d694c45c3b9b8f5b384890936401b72ac4765bfa8d7a842df2ed48b3716e", func := "example.com/droplens/droplens/discard.LawS3411BRoundTrip", spec := "lawS3411BRoundTrip", named := ["example.com/droplens/droplens/discard.tree"], apart := false, laid := [("example.com/droplens/droplens/discard.tree", laid_example_com_droplens_droplens_discard_tree)] }
def LawS3411BRoundTripSaid : Prop := lawS3411BRoundTripRow.holds Ybad.pinned (OpenSpec.ofChange lawS3411BRoundTripSpec)

/-- ITS FALSE NEIGHBOUR: 'it returns false'. Refute it at one input. -/
def lawS3411BRoundTripWrong : ChangeSpec := { name := "lawS3411BRoundTrip", vars := ["example.com/droplens/droplens/discard.tree"], fn := fun _ => fun
  | [d, g1] => { results := [.lit (.bool false)], args := [d], vars := [g1] }
  | _ => none }
def LawS3411BRoundTripWrongFalsely : Prop := lawS3411BRoundTripRow.holds Ybad.pinned (OpenSpec.ofChange lawS3411BRoundTripWrong)

end Rows
end Go.Proofs.YbulkbrpsDoor
