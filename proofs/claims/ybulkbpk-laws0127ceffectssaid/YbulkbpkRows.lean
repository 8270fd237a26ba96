/-
  No cell of these rows narrows 'for every input' (looked for: loops, veiled, ifaces, maps, wideKeys, modest, calm, conditions, laid).
  DERIVED. THE GIVEN ROWS OF THIS SEAT. 3 by the template 'for every input the law returns true; each argument reads behind the call as it read before'; 0 by the template 'total and deterministic' (their statements: YbulkbpkTotals.lean).
  GIVEN WITH THE SEED: the statements are not yours to turn. If you find one false, say at which input.
  Laid BY PROGRAM, IN A SANDBOX (cutbox-rows.mjs): the forced cells as the released guide's own fill.sh prints them over the translation 745d849178a7165f… (all of the seat's roots in one cut). By AI agents, Wed Nov 11 2026. No macro, syntax, notation, axiom, sorry.
-/
import Derived.Test.YbulkbpkChecked
import GoSem.Claim
import GoSem.ClaimJoined
import GoSem.ClaimMapViews
import Derived.JoinedTies
import Derived.KernelRfl
namespace Go.Proofs.Ybulkbpk
/- THE CELL 'sum', in the pinned program and in every row, IS THE sha256 OF THE DUMP (.gsa) THAT YbulkbpkProg.lean LOADS. Nothing in Lean hashes anything: it is a label: what it is worth is what the hold of that sum in a sandbox is worth. -/
noncomputable def Yba.pinned : Pinned := { name := "ybulkbpk", sum := "745d849178a7165f0d51f52fc3c0714be7a2ee33d5402f13875ce6ce5a230c53", checked := Yba.checked }
namespace Rows
def none {H : Type} : Left H := { results := [], args := [] }

/-- 'state.LawS0127BSupersede': WHATEVER THE INPUT: true; the input reads as it did. -/
def lawS0127BSupersedeSpec : ChangeSpec := { name := "lawS0127BSupersede", fn := fun _ => fun
  | [d1, d2, d3, d4, d5, d6, d7] => { results := [.lit (.bool true)], args := [d1, d2, d3, d4, d5, d6, d7] }
  | _ => none }
def lawS0127BSupersedeRow : OpenClaim := { program := "ybulkbpk", sum := "745d849178a7165f0d51f52fc3c0714be7a2ee33d5402f13875ce6ce5a230c53", func := "example.com/quoin/quoin/internal/state.LawS0127BSupersede", spec := "lawS0127BSupersede", plainKeys := false, apart := false }
def LawS0127BSupersedeSaid : Prop := lawS0127BSupersedeRow.holds Yba.pinned (OpenSpec.ofChange lawS0127BSupersedeSpec)

/-- ITS FALSE NEIGHBOUR: 'it returns false'. Refute it at one input. -/
def lawS0127BSupersedeWrong : ChangeSpec := { name := "lawS0127BSupersede", fn := fun _ => fun
  | [d1, d2, d3, d4, d5, d6, d7] => { results := [.lit (.bool false)], args := [d1, d2, d3, d4, d5, d6, d7] }
  | _ => none }
def LawS0127BSupersedeWrongFalsely : Prop := lawS0127BSupersedeRow.holds Yba.pinned (OpenSpec.ofChange lawS0127BSupersedeWrong)

/-- 'state.LawS0127CModel': WHATEVER THE INPUT: true; the input reads as it did. -/
def lawS0127CModelSpec : ChangeSpec := { name := "lawS0127CModel", fn := fun _ => fun
  | [d1, d2, d3, d4, d5] => { results := [.lit (.bool true)], args := [d1, d2, d3, d4, d5] }
  | _ => none }
def lawS0127CModelRow : OpenClaim := { program := "ybulkbpk", sum := "745d849178a7165f0d51f52fc3c0714be7a2ee33d5402f13875ce6ce5a230c53", func := "example.com/quoin/quoin/internal/state.LawS0127CModel", spec := "lawS0127CModel", inPlace := ["(*internal/sync.Mutex).Lock", "internal/race.Disable", "sync/atomic.CompareAndSwapInt32", "internal/race.Enable", "internal/race.Acquire", "(*internal/sync.Mutex).lockSlow", "internal/sync.runtime_canSpin", "internal/sync.runtime_doSpin", "internal/sync.throw", "internal/sync.runtime_nanotime", "internal/sync.runtime_SemacquireMutex", "sync/atomic.AddInt32", "(*internal/sync.Mutex).Unlock", "internal/race.ReleaseMerge", "(*internal/sync.Mutex).unlockSlow", "internal/sync.fatal", "internal/sync.runtime_Semrelease"], plainKeys := false, apart := false }
def LawS0127CModelSaid : Prop := lawS0127CModelRow.holds Yba.pinned (OpenSpec.ofChange lawS0127CModelSpec)

/-- ITS FALSE NEIGHBOUR: 'it returns false'. Refute it at one input. -/
def lawS0127CModelWrong : ChangeSpec := { name := "lawS0127CModel", fn := fun _ => fun
  | [d1, d2, d3, d4, d5] => { results := [.lit (.bool false)], args := [d1, d2, d3, d4, d5] }
  | _ => none }
def LawS0127CModelWrongFalsely : Prop := lawS0127CModelRow.holds Yba.pinned (OpenSpec.ofChange lawS0127CModelWrong)

/-- 'state.LawS0127CEffects': WHATEVER THE INPUT: true; the input reads as it did. -/
def lawS0127CEffectsSpec : ChangeSpec := { name := "lawS0127CEffects", fn := fun _ => fun
  | [d1, d2, d3, d4, d5] => { results := [.lit (.bool true)], args := [d1, d2, d3, d4, d5] }
  | _ => none }
def lawS0127CEffectsRow : OpenClaim := { program := "ybulkbpk", sum := "745d849178a7165f0d51f52fc3c0714be7a2ee33d5402f13875ce6ce5a230c53", func := "example.com/quoin/quoin/internal/state.LawS0127CEffects", spec := "lawS0127CEffects", inPlace := ["(*internal/sync.Mutex).Lock", "internal/race.Disable", "sync/atomic.CompareAndSwapInt32", "internal/race.Enable", "internal/race.Acquire", "(*internal/sync.Mutex).lockSlow", "internal/sync.runtime_canSpin", "internal/sync.runtime_doSpin", "internal/sync.throw", "internal/sync.runtime_nanotime", "internal/sync.runtime_SemacquireMutex", "sync/atomic.AddInt32", "(*internal/sync.Mutex).Unlock", "internal/race.ReleaseMerge", "(*internal/sync.Mutex).unlockSlow", "internal/sync.fatal", "internal/sync.runtime_Semrelease"], plainKeys := false, apart := false }
def LawS0127CEffectsSaid : Prop := lawS0127CEffectsRow.holds Yba.pinned (OpenSpec.ofChange lawS0127CEffectsSpec)

/-- ITS FALSE NEIGHBOUR: 'it returns false'. Refute it at one input. -/
def lawS0127CEffectsWrong : ChangeSpec := { name := "lawS0127CEffects", fn := fun _ => fun
  | [d1, d2, d3, d4, d5] => { results := [.lit (.bool false)], args := [d1, d2, d3, d4, d5] }
  | _ => none }
def LawS0127CEffectsWrongFalsely : Prop := lawS0127CEffectsRow.holds Yba.pinned (OpenSpec.ofChange lawS0127CEffectsWrong)

end Rows
end Go.Proofs.Ybulkbpk
