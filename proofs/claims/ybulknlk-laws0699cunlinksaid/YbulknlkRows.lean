/-
  No cell of these rows narrows 'for every input' (looked for: loops, veiled, ifaces, maps, wideKeys, modest, calm, conditions, laid).
  DERIVED. THE GIVEN ROWS OF THIS SEAT. 1 by the template 'for every input the law returns true; each argument reads behind the call as it read before'; 0 by the template 'total and deterministic' (their statements: YbulknlkTotals.lean).
  GIVEN WITH THE SEED: the statements are not yours to turn. If you find one false, say at which input.
  Laid BY PROGRAM, IN A SANDBOX (cutbox-rows.mjs): the forced cells as the released guide's own fill.sh prints them over the translation 9251e6d6ae1a1ca0… (all of the seat's roots in one cut). By AI agents, Wed Nov 11 2026. No macro, syntax, notation, axiom, sorry.
-/
import Derived.Test.YbulknlkChecked
import GoSem.Claim
import GoSem.ClaimJoined
import GoSem.ClaimMapViews
import Derived.JoinedTies
import Derived.KernelRfl
namespace Go.Proofs.Ybulknlk
/- THE CELL 'sum', in the pinned program and in every row, IS THE sha256 OF THE DUMP (.gsa) THAT YbulknlkProg.lean LOADS. Nothing in Lean hashes anything: it is a label: what it is worth is what the hold of that sum in a sandbox is worth. -/
noncomputable def Yba.pinned : Pinned := { name := "ybulknlk", sum := "9251e6d6ae1a1ca0354658e195c079b1647feb43e6a946966d954a43126a6b2a", checked := Yba.checked }
namespace Rows
def none {H : Type} : Left H := { results := [], args := [] }

/-- 'store.LawS0699CUnlink': WHATEVER THE INPUT: true; the input reads as it did. -/
def lawS0699CUnlinkSpec : ChangeSpec := { name := "lawS0699CUnlink", fn := fun _ => fun
  | [d1, d2, d3] => { results := [.lit (.bool true)], args := [d1, d2, d3] }
  | _ => none }
def lawS0699CUnlinkRow : OpenClaim := { program := "ybulknlk", sum := "9251e6d6ae1a1ca0354658e195c079b1647feb43e6a946966d954a43126a6b2a", func := "example.com/holdfast/holdfast/internal/store.LawS0699CUnlink", spec := "lawS0699CUnlink", named := ["encoding/binary.LittleEndian"], apart := false }
def LawS0699CUnlinkSaid : Prop := lawS0699CUnlinkRow.holds Yba.pinned (OpenSpec.ofChange lawS0699CUnlinkSpec)

/-- ITS FALSE NEIGHBOUR: 'it returns false'. Refute it at one input. -/
def lawS0699CUnlinkWrong : ChangeSpec := { name := "lawS0699CUnlink", fn := fun _ => fun
  | [d1, d2, d3] => { results := [.lit (.bool false)], args := [d1, d2, d3] }
  | _ => none }
def LawS0699CUnlinkWrongFalsely : Prop := lawS0699CUnlinkRow.holds Yba.pinned (OpenSpec.ofChange lawS0699CUnlinkWrong)

end Rows
end Go.Proofs.Ybulknlk
