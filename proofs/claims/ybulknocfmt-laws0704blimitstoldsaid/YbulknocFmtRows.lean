/-
  No cell of these rows narrows 'for every input' (looked for: loops, veiled, ifaces, maps, wideKeys, modest, calm, conditions, laid).
  DERIVED. THE GIVEN ROWS OF THIS SEAT. 2 by the template 'for every input the law returns true; each argument reads behind the call as it read before'; 0 by the template 'total and deterministic' (their statements: YbulknocFmtTotals.lean).
  GIVEN WITH THE SEED: the statements are not yours to turn. If you find one false, say at which input.
  Laid BY PROGRAM, IN A SANDBOX (cutbox-rows.mjs): the forced cells as the released guide's own fill.sh prints them over the translation a17124ef8e2d88be… (all of the seat's roots in one cut). By AI agents, Wed Nov 11 2026. No macro, syntax, notation, axiom, sorry.
-/
import Derived.Test.YbulknocFmtChecked
import GoSem.Claim
import GoSem.ClaimJoined
import GoSem.ClaimMapViews
import Derived.JoinedTies
import Derived.KernelRfl
namespace Go.Proofs.YbulknocFmt
/- THE CELL 'sum', in the pinned program and in every row, IS THE sha256 OF THE DUMP (.gsa) THAT YbulknocFmtProg.lean LOADS. Nothing in Lean hashes anything: it is a label: what it is worth is what the hold of that sum in a sandbox is worth. -/
noncomputable def Ybaf.pinned : Pinned := { name := "ybulknocfmt", sum := "a17124ef8e2d88be8f564c97d99048f779291a647f56318f2e23858688caeb9e", checked := Ybaf.checked }
namespace Rows
def none {H : Type} : Left H := { results := [], args := [] }

/-- 'query.LawS0704BPieces': WHATEVER THE INPUT: true; the input reads as it did. -/
def lawS0704BPiecesSpec : ChangeSpec := { name := "lawS0704BPieces", fn := fun _ => fun
  | [d1, d2, d3, d4, d5, d6, d7] => { results := [.lit (.bool true)], args := [d1, d2, d3, d4, d5, d6, d7] }
  | _ => none }
def lawS0704BPiecesRow : OpenClaim := { program := "ybulknocfmt", sum := "a17124ef8e2d88be8f564c97d99048f779291a647f56318f2e23858688caeb9e", func := "example.com/rivulet/rivulet/internal/query.LawS0704BPieces", spec := "lawS0704BPieces", stops := ["fmt.errorf"], inPlace := ["fmt.errorf"], unfollowed := true, recurses := true, plainKeys := false, apart := false }
/-- NO THEOREM (fmt's text is open here; it may be false): for the released tool's asking of the row's closed facts alone. THE STATEMENT IS 'LawS0704BPiecesToldSaid' (YbulknocFmtCards.lean). -/
def LawS0704BPiecesFormAsk : Prop := lawS0704BPiecesRow.holds Ybaf.pinned (OpenSpec.ofChange lawS0704BPiecesSpec)

/-- ITS FALSE NEIGHBOUR: 'it returns false'. Refute it at one input. -/
def lawS0704BPiecesWrong : ChangeSpec := { name := "lawS0704BPieces", fn := fun _ => fun
  | [d1, d2, d3, d4, d5, d6, d7] => { results := [.lit (.bool false)], args := [d1, d2, d3, d4, d5, d6, d7] }
  | _ => none }
def LawS0704BPiecesWrongFormAsk : Prop := lawS0704BPiecesRow.holds Ybaf.pinned (OpenSpec.ofChange lawS0704BPiecesWrong)

/-- 'query.LawS0704BLimits': WHATEVER THE INPUT: true; the input reads as it did. -/
def lawS0704BLimitsSpec : ChangeSpec := { name := "lawS0704BLimits", fn := fun _ => fun
  | [d1, d2, d3, d4, d5, d6, d7, d8, d9] => { results := [.lit (.bool true)], args := [d1, d2, d3, d4, d5, d6, d7, d8, d9] }
  | _ => none }
def lawS0704BLimitsRow : OpenClaim := { program := "ybulknocfmt", sum := "a17124ef8e2d88be8f564c97d99048f779291a647f56318f2e23858688caeb9e", func := "example.com/rivulet/rivulet/internal/query.LawS0704BLimits", spec := "lawS0704BLimits", stops := ["fmt.errorf"], inPlace := ["fmt.errorf"], unfollowed := true, recurses := true, plainKeys := false, apart := false }
/-- NO THEOREM (fmt's text is open here; it may be false): for the released tool's asking of the row's closed facts alone. THE STATEMENT IS 'LawS0704BLimitsToldSaid' (YbulknocFmtCards.lean). -/
def LawS0704BLimitsFormAsk : Prop := lawS0704BLimitsRow.holds Ybaf.pinned (OpenSpec.ofChange lawS0704BLimitsSpec)

/-- ITS FALSE NEIGHBOUR: 'it returns false'. Refute it at one input. -/
def lawS0704BLimitsWrong : ChangeSpec := { name := "lawS0704BLimits", fn := fun _ => fun
  | [d1, d2, d3, d4, d5, d6, d7, d8, d9] => { results := [.lit (.bool false)], args := [d1, d2, d3, d4, d5, d6, d7, d8, d9] }
  | _ => none }
def LawS0704BLimitsWrongFormAsk : Prop := lawS0704BLimitsRow.holds Ybaf.pinned (OpenSpec.ofChange lawS0704BLimitsWrong)

end Rows
end Go.Proofs.YbulknocFmt
