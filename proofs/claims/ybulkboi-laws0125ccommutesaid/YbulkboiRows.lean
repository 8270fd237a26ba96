/-
  No cell of these rows narrows 'for every input' (looked for: loops, veiled, ifaces, maps, wideKeys, modest, calm, conditions, laid).
  DERIVED. THE GIVEN ROWS OF THIS SEAT. 2 by the template 'for every input the law returns true; each argument reads behind the call as it read before'; 0 by the template 'total and deterministic' (their statements: YbulkboiTotals.lean).
  GIVEN WITH THE SEED: the statements are not yours to turn. If you find one false, say at which input.
  Laid BY PROGRAM, IN A SANDBOX (cutbox-rows.mjs): the forced cells as the released guide's own fill.sh prints them over the translation ce29eb2c0b238343… (all of the seat's roots in one cut). By AI agents, Wed Nov 11 2026. No macro, syntax, notation, axiom, sorry.
-/
import Derived.Test.YbulkboiChecked
import GoSem.Claim
import GoSem.ClaimJoined
import GoSem.ClaimMapViews
import Derived.JoinedTies
import Derived.KernelRfl
namespace Go.Proofs.Ybulkboi
/- THE CELL 'sum', in the pinned program and in every row, IS THE sha256 OF THE DUMP (.gsa) THAT YbulkboiProg.lean LOADS. Nothing in Lean hashes anything: it is a label: what it is worth is what the hold of that sum in a sandbox is worth. -/
noncomputable def Yba.pinned : Pinned := { name := "ybulkboi", sum := "ce29eb2c0b238343e35bc3b26d77259ed7d3d7d5dab2aaa73fc56117476fb3d3", checked := Yba.checked }
namespace Rows
def none {H : Type} : Left H := { results := [], args := [] }

/-- 'nat.LawS0125CExact': WHATEVER THE INPUT: true; the input reads as it did. -/
def lawS0125CExactSpec : ChangeSpec := { name := "lawS0125CExact", fn := fun _ => fun
  | [d1, d2, d3, d4] => { results := [.lit (.bool true)], args := [d1, d2, d3, d4] }
  | _ => none }
def lawS0125CExactRow : OpenClaim := { program := "ybulkboi", sum := "ce29eb2c0b238343e35bc3b26d77259ed7d3d7d5dab2aaa73fc56117476fb3d3", func := "example.com/radixwright/radixwright/internal/nat.LawS0125CExact", spec := "lawS0125CExact", inPlace := ["math/bits.Add64"], apart := false }
def LawS0125CExactSaid : Prop := lawS0125CExactRow.holds Yba.pinned (OpenSpec.ofChange lawS0125CExactSpec)

/-- ITS FALSE NEIGHBOUR: 'it returns false'. Refute it at one input. -/
def lawS0125CExactWrong : ChangeSpec := { name := "lawS0125CExact", fn := fun _ => fun
  | [d1, d2, d3, d4] => { results := [.lit (.bool false)], args := [d1, d2, d3, d4] }
  | _ => none }
def LawS0125CExactWrongFalsely : Prop := lawS0125CExactRow.holds Yba.pinned (OpenSpec.ofChange lawS0125CExactWrong)

/-- 'nat.LawS0125CCommute': WHATEVER THE INPUT: true; the input reads as it did. -/
def lawS0125CCommuteSpec : ChangeSpec := { name := "lawS0125CCommute", fn := fun _ => fun
  | [d1, d2, d3, d4] => { results := [.lit (.bool true)], args := [d1, d2, d3, d4] }
  | _ => none }
def lawS0125CCommuteRow : OpenClaim := { program := "ybulkboi", sum := "ce29eb2c0b238343e35bc3b26d77259ed7d3d7d5dab2aaa73fc56117476fb3d3", func := "example.com/radixwright/radixwright/internal/nat.LawS0125CCommute", spec := "lawS0125CCommute", inPlace := ["math/bits.Add64"], apart := false }
def LawS0125CCommuteSaid : Prop := lawS0125CCommuteRow.holds Yba.pinned (OpenSpec.ofChange lawS0125CCommuteSpec)

/-- ITS FALSE NEIGHBOUR: 'it returns false'. Refute it at one input. -/
def lawS0125CCommuteWrong : ChangeSpec := { name := "lawS0125CCommute", fn := fun _ => fun
  | [d1, d2, d3, d4] => { results := [.lit (.bool false)], args := [d1, d2, d3, d4] }
  | _ => none }
def LawS0125CCommuteWrongFalsely : Prop := lawS0125CCommuteRow.holds Yba.pinned (OpenSpec.ofChange lawS0125CCommuteWrong)

end Rows
end Go.Proofs.Ybulkboi
