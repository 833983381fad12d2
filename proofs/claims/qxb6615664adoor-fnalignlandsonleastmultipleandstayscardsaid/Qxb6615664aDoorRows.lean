/-
  NARROWER THAN 'FOR EVERY INPUT', by the rows' own cells (each row's printed sentence says how): FnAlignLandsOnLeastMultipleAndStays: ifaces, laid.
  DERIVED. THE GIVEN ROWS OF THIS SEAT. 1 by the template 'for every input the law returns true; each argument reads behind the call as it read before'; 0 by the template 'total and deterministic' (their statements: Qxb6615664aDoorTotals.lean).
  GIVEN WITH THE SEED: the statements are not yours to turn. If you find one false, say at which input.
  Laid BY PROGRAM, IN A SANDBOX (cutbox-rows.mjs): the forced cells as the released guide's own fill.sh prints them over the translation a9671b51879b9640… (all of the seat's roots in one cut). By AI agents, Wed Nov 11 2026. No macro, syntax, notation, axiom, sorry.
-/
import Derived.Test.Qxb6615664aDoorChecked
import GoSem.Claim
import GoSem.ClaimJoined
import GoSem.ClaimMapViews
import Derived.JoinedTies
import Derived.KernelRfl
namespace Go.Proofs.Qxb6615664aDoor
/- THE CELL 'sum', in the pinned program and in every row, IS THE sha256 OF THE DUMP (.gsa) THAT Qxb6615664aDoorProg.lean LOADS. Nothing in Lean hashes anything: it is a label: what it is worth is what the hold of that sum in a sandbox is worth. -/
noncomputable def Tryd.pinned : Pinned := { name := "qxb6615664adoor", sum := "a9671b51879b964002722e9a3c2fd435a54870927e08d208fefa26c644420275", checked := Tryd.checked }
namespace Rows
def none {H : Type} : Left H := { results := [], args := [] }

/- WHAT THE LISTED PACKAGE-LEVEL VARIABLES READ AS WHEN THE CALL BEGINS. Each datum BY PROGRAM (the guide's laid-datum.mjs) off the statement by which the dump's own 'gosem.cut.vars' lays the variable. In a bare row this is a premise. The card (Qxb6615664aDoorCards.lean) ties it to the program's text. -/
def laid_example_com_furrow_furrow_systemd_errTruncated {H : Type} : DataW H := .iface "*errors.errorString" (.ptr (.agg [.lit (.string [118, 97, 108, 117, 101, 32, 114, 117, 110, 115, 32, 112, 97, 115, 116, 32, 105, 116, 115, 32, 101, 110, 100])]))

/-- 'zzlaws_systemd_b1.FnAlignLandsOnLeastMultipleAndStays': WHATEVER THE INPUT: true; the input reads as it did. -/
def fnAlignLandsOnLeastMultipleAndStaysSpec : ChangeSpec := { name := "fnAlignLandsOnLeastMultipleAndStays", vars := ["example.com/furrow/furrow/systemd.errTruncated"], fn := fun _ => fun
  | [d1, d2, d3, d4, d5, g1] => { results := [.lit (.bool true)], args := [d1, d2, d3, d4, d5], vars := [g1] }
  | _ => none }
def fnAlignLandsOnLeastMultipleAndStaysRow : OpenClaim := { program := "qxb6615664adoor", sum := "a9671b51879b964002722e9a3c2fd435a54870927e08d208fefa26c644420275", func := "example.com/furrow/furrow/zzlaws_systemd_b1.FnAlignLandsOnLeastMultipleAndStays", spec := "fnAlignLandsOnLeastMultipleAndStays", named := ["encoding/binary.LittleEndian", "encoding/binary.BigEndian", "example.com/furrow/furrow/systemd.errTruncated"], ifaces := true, apart := false, laid := [("example.com/furrow/furrow/systemd.errTruncated", laid_example_com_furrow_furrow_systemd_errTruncated)] }
def FnAlignLandsOnLeastMultipleAndStaysSaid : Prop := fnAlignLandsOnLeastMultipleAndStaysRow.holds Tryd.pinned (OpenSpec.ofChange fnAlignLandsOnLeastMultipleAndStaysSpec)

/-- ITS FALSE NEIGHBOUR: 'it returns false'. Refute it at one input. -/
def fnAlignLandsOnLeastMultipleAndStaysWrong : ChangeSpec := { name := "fnAlignLandsOnLeastMultipleAndStays", vars := ["example.com/furrow/furrow/systemd.errTruncated"], fn := fun _ => fun
  | [d1, d2, d3, d4, d5, g1] => { results := [.lit (.bool false)], args := [d1, d2, d3, d4, d5], vars := [g1] }
  | _ => none }
def FnAlignLandsOnLeastMultipleAndStaysWrongFalsely : Prop := fnAlignLandsOnLeastMultipleAndStaysRow.holds Tryd.pinned (OpenSpec.ofChange fnAlignLandsOnLeastMultipleAndStaysWrong)

end Rows
end Go.Proofs.Qxb6615664aDoor
