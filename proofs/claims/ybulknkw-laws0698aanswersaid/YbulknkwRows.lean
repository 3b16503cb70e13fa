/-
  No cell of these rows narrows 'for every input' (looked for: loops, veiled, ifaces, maps, wideKeys, modest, calm, conditions, laid).
  DERIVED. THE GIVEN ROWS OF THIS SEAT. 1 by the template 'for every input the law returns true; each argument reads behind the call as it read before'; 0 by the template 'total and deterministic' (their statements: YbulknkwTotals.lean).
  GIVEN WITH THE SEED: the statements are not yours to turn. If you find one false, say at which input.
  Laid BY PROGRAM, IN A SANDBOX (cutbox-rows.mjs): the forced cells as the released guide's own fill.sh prints them over the translation af26e99fe43b8c65… (all of the seat's roots in one cut). By AI agents, Wed Nov 11 2026. No macro, syntax, notation, axiom, sorry.
-/
import Derived.Test.YbulknkwChecked
import GoSem.Claim
import GoSem.ClaimJoined
import GoSem.ClaimMapViews
import Derived.JoinedTies
import Derived.KernelRfl
namespace Go.Proofs.Ybulknkw
/- THE CELL 'sum', in the pinned program and in every row, IS THE sha256 OF THE DUMP (.gsa) THAT YbulknkwProg.lean LOADS. Nothing in Lean hashes anything: it is a label: what it is worth is what the hold of that sum in a sandbox is worth. -/
noncomputable def Yba.pinned : Pinned := { name := "ybulknkw", sum := "af26e99fe43b8c65b849adb10f8d1d45d22d9c63365811da3521c5874d88cd9f", checked := Yba.checked }
namespace Rows
def none {H : Type} : Left H := { results := [], args := [] }

/-- 'h248.LawS0698AAnswer': WHATEVER THE INPUT: true; the input reads as it did. -/
def lawS0698AAnswerSpec : ChangeSpec := { name := "lawS0698AAnswer", fn := fun _ => fun
  | [d1, d2, d3, d4, d5] => { results := [.lit (.bool true)], args := [d1, d2, d3, d4, d5] }
  | _ => none }
def lawS0698AAnswerRow : OpenClaim := { program := "ybulknkw", sum := "af26e99fe43b8c65b849adb10f8d1d45d22d9c63365811da3521c5874d88cd9f", func := "example.com/mendgate/mendgate/h248.LawS0698AAnswer", spec := "lawS0698AAnswer", unfollowed := true, recurses := true, apart := false }
def LawS0698AAnswerSaid : Prop := lawS0698AAnswerRow.holds Yba.pinned (OpenSpec.ofChange lawS0698AAnswerSpec)

/-- ITS FALSE NEIGHBOUR: 'it returns false'. Refute it at one input. -/
def lawS0698AAnswerWrong : ChangeSpec := { name := "lawS0698AAnswer", fn := fun _ => fun
  | [d1, d2, d3, d4, d5] => { results := [.lit (.bool false)], args := [d1, d2, d3, d4, d5] }
  | _ => none }
def LawS0698AAnswerWrongFalsely : Prop := lawS0698AAnswerRow.holds Yba.pinned (OpenSpec.ofChange lawS0698AAnswerWrong)

end Rows
end Go.Proofs.Ybulknkw
