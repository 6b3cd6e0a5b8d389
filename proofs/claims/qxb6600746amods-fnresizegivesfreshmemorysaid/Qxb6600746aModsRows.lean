/-
  No cell of these rows narrows 'for every input' (looked for: loops, veiled, ifaces, maps, wideKeys, modest, calm, conditions, laid).
  DERIVED. THE GIVEN ROWS OF THIS SEAT. 2 by the template 'for every input the law returns true; each argument reads behind the call as it read before'; 0 by the template 'total and deterministic' (their statements: Qxb6600746aModsTotals.lean).
  GIVEN WITH THE SEED: the statements are not yours to turn. If you find one false, say at which input.
  Laid BY PROGRAM, IN A SANDBOX (cutbox-rows.mjs): the forced cells as the released guide's own fill.sh prints them over the translation bf44f726141d2396… (all of the seat's roots in one cut). By AI agents, Wed Nov 11 2026. No macro, syntax, notation, axiom, sorry.
-/
import Derived.Test.Qxb6600746aModsChecked
import GoSem.Claim
import GoSem.ClaimJoined
import GoSem.ClaimMapViews
import Derived.JoinedTies
import Derived.KernelRfl
namespace Go.Proofs.Qxb6600746aMods
/- THE CELL 'sum', in the pinned program and in every row, IS THE sha256 OF THE DUMP (.gsa) THAT Qxb6600746aModsProg.lean LOADS. Nothing in Lean hashes anything: it is a label: what it is worth is what the hold of that sum in a sandbox is worth. -/
noncomputable def Trym.pinned : Pinned := { name := "qxb6600746amods", sum := "bf44f726141d2396495985d1c9fc3c61bcafc0f8c121a7a643db7f5284390a3d", checked := Trym.checked }
namespace Rows
def none {H : Type} : Left H := { results := [], args := [] }

/-- 'zzlaws_rpc_b1.FnResizeKeepsBytesWithCapacitySize': WHATEVER THE INPUT: true; the input reads as it did. -/
def fnResizeKeepsBytesWithCapacitySizeSpec : ChangeSpec := { name := "fnResizeKeepsBytesWithCapacitySize", fn := fun _ => fun
  | [d1, d2] => { results := [.lit (.bool true)], args := [d1, d2] }
  | _ => none }
def fnResizeKeepsBytesWithCapacitySizeRow : OpenClaim := { program := "qxb6600746amods", sum := "bf44f726141d2396495985d1c9fc3c61bcafc0f8c121a7a643db7f5284390a3d", func := "example.com/gannet/gannet/zzlaws_rpc_b1.FnResizeKeepsBytesWithCapacitySize", spec := "fnResizeKeepsBytesWithCapacitySize", make := .lifted ["publicsums"], apart := false }
def FnResizeKeepsBytesWithCapacitySizeSaid : Prop := fnResizeKeepsBytesWithCapacitySizeRow.holds Trym.pinned (OpenSpec.ofChange fnResizeKeepsBytesWithCapacitySizeSpec)

/-- ITS FALSE NEIGHBOUR: 'it returns false'. Refute it at one input. -/
def fnResizeKeepsBytesWithCapacitySizeWrong : ChangeSpec := { name := "fnResizeKeepsBytesWithCapacitySize", fn := fun _ => fun
  | [d1, d2] => { results := [.lit (.bool false)], args := [d1, d2] }
  | _ => none }
def FnResizeKeepsBytesWithCapacitySizeWrongFalsely : Prop := fnResizeKeepsBytesWithCapacitySizeRow.holds Trym.pinned (OpenSpec.ofChange fnResizeKeepsBytesWithCapacitySizeWrong)

/-- 'zzlaws_rpc_b1.FnResizeGivesFreshMemory': WHATEVER THE INPUT: true; the input reads as it did. -/
def fnResizeGivesFreshMemorySpec : ChangeSpec := { name := "fnResizeGivesFreshMemory", fn := fun _ => fun
  | [d1, d2, d3] => { results := [.lit (.bool true)], args := [d1, d2, d3] }
  | _ => none }
def fnResizeGivesFreshMemoryRow : OpenClaim := { program := "qxb6600746amods", sum := "bf44f726141d2396495985d1c9fc3c61bcafc0f8c121a7a643db7f5284390a3d", func := "example.com/gannet/gannet/zzlaws_rpc_b1.FnResizeGivesFreshMemory", spec := "fnResizeGivesFreshMemory", make := .lifted ["publicsums"], apart := false }
def FnResizeGivesFreshMemorySaid : Prop := fnResizeGivesFreshMemoryRow.holds Trym.pinned (OpenSpec.ofChange fnResizeGivesFreshMemorySpec)

/-- ITS FALSE NEIGHBOUR: 'it returns false'. Refute it at one input. -/
def fnResizeGivesFreshMemoryWrong : ChangeSpec := { name := "fnResizeGivesFreshMemory", fn := fun _ => fun
  | [d1, d2, d3] => { results := [.lit (.bool false)], args := [d1, d2, d3] }
  | _ => none }
def FnResizeGivesFreshMemoryWrongFalsely : Prop := fnResizeGivesFreshMemoryRow.holds Trym.pinned (OpenSpec.ofChange fnResizeGivesFreshMemoryWrong)

end Rows
end Go.Proofs.Qxb6600746aMods
