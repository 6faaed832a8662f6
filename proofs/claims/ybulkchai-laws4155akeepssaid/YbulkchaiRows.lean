/-
  No cell of these rows narrows 'for every input' (looked for: loops, veiled, ifaces, maps, wideKeys, modest, calm, conditions, laid).
  DERIVED. THE GIVEN ROWS OF THIS SEAT. 3 by the template 'for every input the law returns true; each argument reads behind the call as it read before'; 0 by the template 'total and deterministic' (their statements: YbulkchaiTotals.lean).
  GIVEN WITH THE SEED: the statements are not yours to turn. If you find one false, say at which input.
  Laid BY PROGRAM, IN A SANDBOX (cutbox-rows.mjs): the forced cells as the released guide's own fill.sh prints them over the translation 32659213aa44f4a0… (all of the seat's roots in one cut). By AI agents, Wed Nov 11 2026. No macro, syntax, notation, axiom, sorry.
-/
import Derived.Test.YbulkchaiChecked
import GoSem.Claim
import GoSem.ClaimJoined
import GoSem.ClaimMapViews
import Derived.JoinedTies
import Derived.KernelRfl
namespace Go.Proofs.Ybulkchai
/- THE CELL 'sum', in the pinned program and in every row, IS THE sha256 OF THE DUMP (.gsa) THAT YbulkchaiProg.lean LOADS. Nothing in Lean hashes anything: it is a label: what it is worth is what the hold of that sum in a sandbox is worth. -/
noncomputable def Yba.pinned : Pinned := { name := "ybulkchai", sum := "32659213aa44f4a0651f3b2769d0ac5e3dfa091d36e257ad1dc46f8d48cdb611", checked := Yba.checked }
namespace Rows
def none {H : Type} : Left H := { results := [], args := [] }

/-- 'claimed.LawS4155AKeeps': WHATEVER THE INPUT: true; the input reads as it did. -/
def lawS4155AKeepsSpec : ChangeSpec := { name := "lawS4155AKeeps", fn := fun _ => fun
  | [d] => { results := [.lit (.bool true)], args := [d] }
  | _ => none }
def lawS4155AKeepsRow : OpenClaim := { program := "ybulkchai", sum := "32659213aa44f4a0651f3b2769d0ac5e3dfa091d36e257ad1dc46f8d48cdb611", func := "example.com/tributary/tributary/internal/claimed.LawS4155AKeeps", spec := "lawS4155AKeeps", inPlace := ["(*internal/sync.Mutex).Lock", "internal/race.Disable", "sync/atomic.CompareAndSwapInt32", "internal/race.Enable", "internal/race.Acquire", "(*internal/sync.Mutex).lockSlow", "internal/sync.runtime_canSpin", "internal/sync.runtime_doSpin", "internal/sync.throw", "internal/sync.runtime_nanotime", "internal/sync.runtime_SemacquireMutex", "sync/atomic.AddInt32", "(*internal/sync.Mutex).Unlock", "internal/race.ReleaseMerge", "(*internal/sync.Mutex).unlockSlow", "internal/sync.fatal", "internal/sync.runtime_Semrelease"], apart := false }
def LawS4155AKeepsSaid : Prop := lawS4155AKeepsRow.holds Yba.pinned (OpenSpec.ofChange lawS4155AKeepsSpec)

/-- ITS FALSE NEIGHBOUR: 'it returns false'. Refute it at one input. -/
def lawS4155AKeepsWrong : ChangeSpec := { name := "lawS4155AKeeps", fn := fun _ => fun
  | [d] => { results := [.lit (.bool false)], args := [d] }
  | _ => none }
def LawS4155AKeepsWrongFalsely : Prop := lawS4155AKeepsRow.holds Yba.pinned (OpenSpec.ofChange lawS4155AKeepsWrong)

/-- 'resp.LawS4155BExact': WHATEVER THE INPUT: true; the input reads as it did. -/
def lawS4155BExactSpec : ChangeSpec := { name := "lawS4155BExact", fn := fun _ => fun
  | [d] => { results := [.lit (.bool true)], args := [d] }
  | _ => none }
def lawS4155BExactRow : OpenClaim := { program := "ybulkchai", sum := "32659213aa44f4a0651f3b2769d0ac5e3dfa091d36e257ad1dc46f8d48cdb611", func := "example.com/tributary/tributary/resp.LawS4155BExact", spec := "lawS4155BExact", apart := false }
def LawS4155BExactSaid : Prop := lawS4155BExactRow.holds Yba.pinned (OpenSpec.ofChange lawS4155BExactSpec)

/-- ITS FALSE NEIGHBOUR: 'it returns false'. Refute it at one input. -/
def lawS4155BExactWrong : ChangeSpec := { name := "lawS4155BExact", fn := fun _ => fun
  | [d] => { results := [.lit (.bool false)], args := [d] }
  | _ => none }
def LawS4155BExactWrongFalsely : Prop := lawS4155BExactRow.holds Yba.pinned (OpenSpec.ofChange lawS4155BExactWrong)

/-- 'resp.LawS4155BCount': WHATEVER THE INPUT: true; the input reads as it did. -/
def lawS4155BCountSpec : ChangeSpec := { name := "lawS4155BCount", fn := fun _ => fun
  | [] => { results := [.lit (.bool true)], args := [] }
  | _ => none }
def lawS4155BCountRow : OpenClaim := { program := "ybulkchai", sum := "32659213aa44f4a0651f3b2769d0ac5e3dfa091d36e257ad1dc46f8d48cdb611", func := "example.com/tributary/tributary/resp.LawS4155BCount", spec := "lawS4155BCount", apart := false }
def LawS4155BCountSaid : Prop := lawS4155BCountRow.holds Yba.pinned (OpenSpec.ofChange lawS4155BCountSpec)

/-- ITS FALSE NEIGHBOUR: 'it returns false'. Refute it at one input. -/
def lawS4155BCountWrong : ChangeSpec := { name := "lawS4155BCount", fn := fun _ => fun
  | [] => { results := [.lit (.bool false)], args := [] }
  | _ => none }
def LawS4155BCountWrongFalsely : Prop := lawS4155BCountRow.holds Yba.pinned (OpenSpec.ofChange lawS4155BCountWrong)

end Rows
end Go.Proofs.Ybulkchai
