/-
  No cell of these rows narrows 'for every input' (looked for: loops, veiled, ifaces, maps, wideKeys, modest, calm, conditions, laid).
  DERIVED. THE GIVEN ROWS OF THIS SEAT. 1 by the template 'for every input the law returns true; each argument reads behind the call as it read before'; 0 by the template 'total and deterministic' (their statements: YbulkbmsFmtTotals.lean).
  GIVEN WITH THE SEED: the statements are not yours to turn. If you find one false, say at which input.
  Laid BY PROGRAM, IN A SANDBOX (cutbox-rows.mjs): the forced cells as the released guide's own fill.sh prints them over the translation 0ada3c4a3570bfeb… (all of the seat's roots in one cut). By AI agents, Wed Nov 11 2026. No macro, syntax, notation, axiom, sorry.
-/
import Derived.Test.YbulkbmsFmtChecked
import GoSem.Claim
import GoSem.ClaimJoined
import GoSem.ClaimMapViews
import Derived.JoinedTies
import Derived.KernelRfl
namespace Go.Proofs.YbulkbmsFmt
/- THE CELL 'sum', in the pinned program and in every row, IS THE sha256 OF THE DUMP (.gsa) THAT YbulkbmsFmtProg.lean LOADS. Nothing in Lean hashes anything: it is a label: what it is worth is what the hold of that sum in a sandbox is worth. -/
noncomputable def Ybaf.pinned : Pinned := { name := "ybulkbmsfmt", sum := "0ada3c4a3570bfeb1fec081b15a53dfff4ec7aeb7e448fdb346df1ded688c9f5", checked := Ybaf.checked }
namespace Rows
def none {H : Type} : Left H := { results := [], args := [] }

/-- 'chordal.LawS0122BModel': WHATEVER THE INPUT: true; the input reads as it did. -/
def lawS0122BModelSpec : ChangeSpec := { name := "lawS0122BModel", fn := fun _ => fun
  | [d1, d2] => { results := [.lit (.bool true)], args := [d1, d2] }
  | _ => none }
def lawS0122BModelRow : OpenClaim := { program := "ybulkbmsfmt", sum := "0ada3c4a3570bfeb1fec081b15a53dfff4ec7aeb7e448fdb346df1ded688c9f5", func := "example.com/hullward/hullward/chordal.LawS0122BModel", spec := "lawS0122BModel", stops := ["fmt.errorf"], inPlace := ["fmt.errorf"], unfollowed := true, recurses := true, apart := false }
/-- NO THEOREM (fmt's text is open here; it may be false): for the released tool's asking of the row's closed facts alone. THE STATEMENT IS 'LawS0122BModelToldSaid' (YbulkbmsFmtCards.lean). -/
def LawS0122BModelFormAsk : Prop := lawS0122BModelRow.holds Ybaf.pinned (OpenSpec.ofChange lawS0122BModelSpec)

/-- ITS FALSE NEIGHBOUR: 'it returns false'. Refute it at one input. -/
def lawS0122BModelWrong : ChangeSpec := { name := "lawS0122BModel", fn := fun _ => fun
  | [d1, d2] => { results := [.lit (.bool false)], args := [d1, d2] }
  | _ => none }
def LawS0122BModelWrongFormAsk : Prop := lawS0122BModelRow.holds Ybaf.pinned (OpenSpec.ofChange lawS0122BModelWrong)

end Rows
end Go.Proofs.YbulkbmsFmt
