/-
  No cell of these rows narrows 'for every input' (looked for: loops, veiled, ifaces, maps, wideKeys, modest, calm, conditions, laid).
  DERIVED. THE GIVEN ROWS OF THIS SEAT. 2 by the template 'for every input the law returns true; each argument reads behind the call as it read before'; 0 by the template 'total and deterministic' (their statements: YbulknmmTotals.lean).
  GIVEN WITH THE SEED: the statements are not yours to turn. If you find one false, say at which input.
  Laid BY PROGRAM, IN A SANDBOX (cutbox-rows.mjs): the forced cells as the released guide's own fill.sh prints them over the translation 61d0298d7a980506… (all of the seat's roots in one cut). By AI agents, Wed Nov 11 2026. No macro, syntax, notation, axiom, sorry.
-/
import Derived.Test.YbulknmmChecked
import GoSem.Claim
import GoSem.ClaimJoined
import GoSem.ClaimMapViews
import Derived.JoinedTies
import Derived.KernelRfl
namespace Go.Proofs.Ybulknmm
/- THE CELL 'sum', in the pinned program and in every row, IS THE sha256 OF THE DUMP (.gsa) THAT YbulknmmProg.lean LOADS. Nothing in Lean hashes anything: it is a label: what it is worth is what the hold of that sum in a sandbox is worth. -/
noncomputable def Yba.pinned : Pinned := { name := "ybulknmm", sum := "61d0298d7a980506d20f56d9742dc7c5af0ae95e827242c1eddd2ee3d330be34", checked := Yba.checked }
namespace Rows
def none {H : Type} : Left H := { results := [], args := [] }

/-- 'store.LawS0701BDrop': WHATEVER THE INPUT: true; the input reads as it did. -/
def lawS0701BDropSpec : ChangeSpec := { name := "lawS0701BDrop", fn := fun _ => fun
  | [d1, d2, d3, d4, d5, d6] => { results := [.lit (.bool true)], args := [d1, d2, d3, d4, d5, d6] }
  | _ => none }
def lawS0701BDropRow : OpenClaim := { program := "ybulknmm", sum := "61d0298d7a980506d20f56d9742dc7c5af0ae95e827242c1eddd2ee3d330be34", func := "example.com/harborkey/harborkey/pkg/store.LawS0701BDrop", spec := "lawS0701BDrop", recurses := true, apart := false }
def LawS0701BDropSaid : Prop := lawS0701BDropRow.holds Yba.pinned (OpenSpec.ofChange lawS0701BDropSpec)

/-- ITS FALSE NEIGHBOUR: 'it returns false'. Refute it at one input. -/
def lawS0701BDropWrong : ChangeSpec := { name := "lawS0701BDrop", fn := fun _ => fun
  | [d1, d2, d3, d4, d5, d6] => { results := [.lit (.bool false)], args := [d1, d2, d3, d4, d5, d6] }
  | _ => none }
def LawS0701BDropWrongFalsely : Prop := lawS0701BDropRow.holds Yba.pinned (OpenSpec.ofChange lawS0701BDropWrong)

/-- 'store.LawS0701BTwice': WHATEVER THE INPUT: true; the input reads as it did. -/
def lawS0701BTwiceSpec : ChangeSpec := { name := "lawS0701BTwice", fn := fun _ => fun
  | [d1, d2, d3, d4, d5] => { results := [.lit (.bool true)], args := [d1, d2, d3, d4, d5] }
  | _ => none }
def lawS0701BTwiceRow : OpenClaim := { program := "ybulknmm", sum := "61d0298d7a980506d20f56d9742dc7c5af0ae95e827242c1eddd2ee3d330be34", func := "example.com/harborkey/harborkey/pkg/store.LawS0701BTwice", spec := "lawS0701BTwice", recurses := true, apart := false }
def LawS0701BTwiceSaid : Prop := lawS0701BTwiceRow.holds Yba.pinned (OpenSpec.ofChange lawS0701BTwiceSpec)

/-- ITS FALSE NEIGHBOUR: 'it returns false'. Refute it at one input. -/
def lawS0701BTwiceWrong : ChangeSpec := { name := "lawS0701BTwice", fn := fun _ => fun
  | [d1, d2, d3, d4, d5] => { results := [.lit (.bool false)], args := [d1, d2, d3, d4, d5] }
  | _ => none }
def LawS0701BTwiceWrongFalsely : Prop := lawS0701BTwiceRow.holds Yba.pinned (OpenSpec.ofChange lawS0701BTwiceWrong)

end Rows
end Go.Proofs.Ybulknmm
