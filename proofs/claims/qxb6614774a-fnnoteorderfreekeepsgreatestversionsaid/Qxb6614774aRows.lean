/-
  No cell of these rows narrows 'for every input' (looked for: loops, veiled, ifaces, maps, wideKeys, modest, calm, conditions, laid).
  DERIVED. THE GIVEN ROWS OF THIS SEAT. 1 by the template 'for every input the law returns true; each argument reads behind the call as it read before'; 0 by the template 'total and deterministic' (their statements: Qxb6614774aTotals.lean).
  GIVEN WITH THE SEED: the statements are not yours to turn. If you find one false, say at which input.
  Laid BY PROGRAM, IN A SANDBOX (cutbox-rows.mjs): the forced cells as the released guide's own fill.sh prints them over the translation 15fb473c513203be… (all of the seat's roots in one cut). By AI agents, Wed Nov 11 2026. No macro, syntax, notation, axiom, sorry.
-/
import Derived.Test.Qxb6614774aChecked
import GoSem.Claim
import GoSem.ClaimJoined
import GoSem.ClaimMapViews
import Derived.JoinedTies
import Derived.KernelRfl
namespace Go.Proofs.Qxb6614774a
/- THE CELL 'sum', in the pinned program and in every row, IS THE sha256 OF THE DUMP (.gsa) THAT Qxb6614774aProg.lean LOADS. Nothing in Lean hashes anything: it is a label: what it is worth is what the hold of that sum in a sandbox is worth. -/
noncomputable def Try.pinned : Pinned := { name := "qxb6614774a", sum := "15fb473c513203be86bfcdd572b8eaaf2aa989d9d3e68ed75d6ad48d25cebbca", checked := Try.checked }
namespace Rows
def none {H : Type} : Left H := { results := [], args := [] }

/-- 'zzlaws_internal_mirror_b1.FnNoteOrderFreeKeepsGreatestVersion': WHATEVER THE INPUT: true; the input reads as it did. -/
def fnNoteOrderFreeKeepsGreatestVersionSpec : ChangeSpec := { name := "fnNoteOrderFreeKeepsGreatestVersion", fn := fun _ => fun
  | [d1, d2] => { results := [.lit (.bool true)], args := [d1, d2] }
  | _ => none }
def fnNoteOrderFreeKeepsGreatestVersionRow : OpenClaim := { program := "qxb6614774a", sum := "15fb473c513203be86bfcdd572b8eaaf2aa989d9d3e68ed75d6ad48d25cebbca", func := "example.com/trefoil/trefoil/zzlaws_internal_mirror_b1.FnNoteOrderFreeKeepsGreatestVersion", spec := "fnNoteOrderFreeKeepsGreatestVersion", unfollowed := true, recurses := true, apart := false }
def FnNoteOrderFreeKeepsGreatestVersionSaid : Prop := fnNoteOrderFreeKeepsGreatestVersionRow.holds Try.pinned (OpenSpec.ofChange fnNoteOrderFreeKeepsGreatestVersionSpec)

/-- ITS FALSE NEIGHBOUR: 'it returns false'. Refute it at one input. -/
def fnNoteOrderFreeKeepsGreatestVersionWrong : ChangeSpec := { name := "fnNoteOrderFreeKeepsGreatestVersion", fn := fun _ => fun
  | [d1, d2] => { results := [.lit (.bool false)], args := [d1, d2] }
  | _ => none }
def FnNoteOrderFreeKeepsGreatestVersionWrongFalsely : Prop := fnNoteOrderFreeKeepsGreatestVersionRow.holds Try.pinned (OpenSpec.ofChange fnNoteOrderFreeKeepsGreatestVersionWrong)

end Rows
end Go.Proofs.Qxb6614774a
