/-
  No cell of these rows narrows 'for every input' (looked for: loops, veiled, ifaces, maps, wideKeys, modest, calm, conditions, laid).
  DERIVED. THE GIVEN ROWS OF THIS SEAT. 2 by the template 'for every input the law returns true; each argument reads behind the call as it read before'; 0 by the template 'total and deterministic' (their statements: YbulkbmsTotals.lean).
  GIVEN WITH THE SEED: the statements are not yours to turn. If you find one false, say at which input.
  Laid BY PROGRAM, IN A SANDBOX (cutbox-rows.mjs): the forced cells as the released guide's own fill.sh prints them over the translation aad20b78d4997710… (all of the seat's roots in one cut). By AI agents, Wed Nov 11 2026. No macro, syntax, notation, axiom, sorry.
-/
import Derived.Test.YbulkbmsChecked
import GoSem.Claim
import GoSem.ClaimJoined
import GoSem.ClaimMapViews
import Derived.JoinedTies
import Derived.KernelRfl
namespace Go.Proofs.Ybulkbms
/- THE CELL 'sum', in the pinned program and in every row, IS THE sha256 OF THE DUMP (.gsa) THAT YbulkbmsProg.lean LOADS. Nothing in Lean hashes anything: it is a label: what it is worth is what the hold of that sum in a sandbox is worth. -/
noncomputable def Yba.pinned : Pinned := { name := "ybulkbms", sum := "aad20b78d4997710df871dce6894894f5fb0aa4f65ac337a68bffb264d9e3d07", checked := Yba.checked }
namespace Rows
def none {H : Type} : Left H := { results := [], args := [] }

/-- 'gather.LawS0122CExact': WHATEVER THE INPUT: true; the input reads as it did. -/
def lawS0122CExactSpec : ChangeSpec := { name := "lawS0122CExact", fn := fun _ => fun
  | [d1, d2, d3, d4, d5] => { results := [.lit (.bool true)], args := [d1, d2, d3, d4, d5] }
  | _ => none }
def lawS0122CExactRow : OpenClaim := { program := "ybulkbms", sum := "aad20b78d4997710df871dce6894894f5fb0aa4f65ac337a68bffb264d9e3d07", func := "example.com/hullward/hullward/gather.LawS0122CExact", spec := "lawS0122CExact", unfollowed := true, recurses := true, plainKeys := false, apart := false }
def LawS0122CExactSaid : Prop := lawS0122CExactRow.holds Yba.pinned (OpenSpec.ofChange lawS0122CExactSpec)

/-- ITS FALSE NEIGHBOUR: 'it returns false'. Refute it at one input. -/
def lawS0122CExactWrong : ChangeSpec := { name := "lawS0122CExact", fn := fun _ => fun
  | [d1, d2, d3, d4, d5] => { results := [.lit (.bool false)], args := [d1, d2, d3, d4, d5] }
  | _ => none }
def LawS0122CExactWrongFalsely : Prop := lawS0122CExactRow.holds Yba.pinned (OpenSpec.ofChange lawS0122CExactWrong)

/-- 'gather.LawS0122CAhead': WHATEVER THE INPUT: true; the input reads as it did. -/
def lawS0122CAheadSpec : ChangeSpec := { name := "lawS0122CAhead", fn := fun _ => fun
  | [d1, d2, d3, d4, d5] => { results := [.lit (.bool true)], args := [d1, d2, d3, d4, d5] }
  | _ => none }
def lawS0122CAheadRow : OpenClaim := { program := "ybulkbms", sum := "aad20b78d4997710df871dce6894894f5fb0aa4f65ac337a68bffb264d9e3d07", func := "example.com/hullward/hullward/gather.LawS0122CAhead", spec := "lawS0122CAhead", unfollowed := true, recurses := true, plainKeys := false, apart := false }
def LawS0122CAheadSaid : Prop := lawS0122CAheadRow.holds Yba.pinned (OpenSpec.ofChange lawS0122CAheadSpec)

/-- ITS FALSE NEIGHBOUR: 'it returns false'. Refute it at one input. -/
def lawS0122CAheadWrong : ChangeSpec := { name := "lawS0122CAhead", fn := fun _ => fun
  | [d1, d2, d3, d4, d5] => { results := [.lit (.bool false)], args := [d1, d2, d3, d4, d5] }
  | _ => none }
def LawS0122CAheadWrongFalsely : Prop := lawS0122CAheadRow.holds Yba.pinned (OpenSpec.ofChange lawS0122CAheadWrong)

end Rows
end Go.Proofs.Ybulkbms
