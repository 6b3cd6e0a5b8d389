/-
  No cell of these rows narrows 'for every input' (looked for: loops, veiled, ifaces, maps, wideKeys, modest, calm, conditions, laid).
  DERIVED. THE GIVEN ROWS OF THIS SEAT. 3 by the template 'for every input the law returns true; each argument reads behind the call as it read before'; 0 by the template 'total and deterministic' (their statements: Qxb6600642aModsTotals.lean).
  GIVEN WITH THE SEED: the statements are not yours to turn. If you find one false, say at which input.
  Laid BY PROGRAM, IN A SANDBOX (cutbox-rows.mjs): the forced cells as the released guide's own fill.sh prints them over the translation a4f9d574d0d4b215… (all of the seat's roots in one cut). By AI agents, Wed Nov 11 2026. No macro, syntax, notation, axiom, sorry.
-/
import Derived.Test.Qxb6600642aModsChecked
import GoSem.Claim
import GoSem.ClaimJoined
import GoSem.ClaimMapViews
import Derived.JoinedTies
import Derived.KernelRfl
namespace Go.Proofs.Qxb6600642aMods
/- THE CELL 'sum', in the pinned program and in every row, IS THE sha256 OF THE DUMP (.gsa) THAT Qxb6600642aModsProg.lean LOADS. Nothing in Lean hashes anything: it is a label: what it is worth is what the hold of that sum in a sandbox is worth. -/
noncomputable def Trym.pinned : Pinned := { name := "qxb6600642amods", sum := "a4f9d574d0d4b21599e5f2220abcc431e3fa4d625a2c156b0caa7f70fa7e6cc6", checked := Trym.checked }
namespace Rows
def none {H : Type} : Left H := { results := [], args := [] }

/-- 'zzlaws_pkg_api_b1.FnKindOfFirstByteDecides': WHATEVER THE INPUT: true; the input reads as it did. -/
def fnKindOfFirstByteDecidesSpec : ChangeSpec := { name := "fnKindOfFirstByteDecides", fn := fun _ => fun
  | [d1, d2] => { results := [.lit (.bool true)], args := [d1, d2] }
  | _ => none }
def fnKindOfFirstByteDecidesRow : OpenClaim := { program := "qxb6600642amods", sum := "a4f9d574d0d4b21599e5f2220abcc431e3fa4d625a2c156b0caa7f70fa7e6cc6", func := "example.com/rallypoint/rallypoint/zzlaws_pkg_api_b1.FnKindOfFirstByteDecides", spec := "fnKindOfFirstByteDecides", make := .lifted ["publicsums"], apart := false }
def FnKindOfFirstByteDecidesSaid : Prop := fnKindOfFirstByteDecidesRow.holds Trym.pinned (OpenSpec.ofChange fnKindOfFirstByteDecidesSpec)

/-- ITS FALSE NEIGHBOUR: 'it returns false'. Refute it at one input. -/
def fnKindOfFirstByteDecidesWrong : ChangeSpec := { name := "fnKindOfFirstByteDecides", fn := fun _ => fun
  | [d1, d2] => { results := [.lit (.bool false)], args := [d1, d2] }
  | _ => none }
def FnKindOfFirstByteDecidesWrongFalsely : Prop := fnKindOfFirstByteDecidesRow.holds Trym.pinned (OpenSpec.ofChange fnKindOfFirstByteDecidesWrong)

/-- 'zzlaws_pkg_api_b1.FnWordsIdempotent': WHATEVER THE INPUT: true; the input reads as it did. -/
def fnWordsIdempotentSpec : ChangeSpec := { name := "fnWordsIdempotent", fn := fun _ => fun
  | [d] => { results := [.lit (.bool true)], args := [d] }
  | _ => none }
def fnWordsIdempotentRow : OpenClaim := { program := "qxb6600642amods", sum := "a4f9d574d0d4b21599e5f2220abcc431e3fa4d625a2c156b0caa7f70fa7e6cc6", func := "example.com/rallypoint/rallypoint/zzlaws_pkg_api_b1.FnWordsIdempotent", spec := "fnWordsIdempotent", make := .lifted ["publicsums"], apart := false }
def FnWordsIdempotentSaid : Prop := fnWordsIdempotentRow.holds Trym.pinned (OpenSpec.ofChange fnWordsIdempotentSpec)

/-- ITS FALSE NEIGHBOUR: 'it returns false'. Refute it at one input. -/
def fnWordsIdempotentWrong : ChangeSpec := { name := "fnWordsIdempotent", fn := fun _ => fun
  | [d] => { results := [.lit (.bool false)], args := [d] }
  | _ => none }
def FnWordsIdempotentWrongFalsely : Prop := fnWordsIdempotentRow.holds Trym.pinned (OpenSpec.ofChange fnWordsIdempotentWrong)

/-- 'zzlaws_pkg_api_b1.FnWordsTellKindsApart': WHATEVER THE INPUT: true; the input reads as it did. -/
def fnWordsTellKindsApartSpec : ChangeSpec := { name := "fnWordsTellKindsApart", fn := fun _ => fun
  | [d1, d2] => { results := [.lit (.bool true)], args := [d1, d2] }
  | _ => none }
def fnWordsTellKindsApartRow : OpenClaim := { program := "qxb6600642amods", sum := "a4f9d574d0d4b21599e5f2220abcc431e3fa4d625a2c156b0caa7f70fa7e6cc6", func := "example.com/rallypoint/rallypoint/zzlaws_pkg_api_b1.FnWordsTellKindsApart", spec := "fnWordsTellKindsApart", make := .lifted ["publicsums"], apart := false }
def FnWordsTellKindsApartSaid : Prop := fnWordsTellKindsApartRow.holds Trym.pinned (OpenSpec.ofChange fnWordsTellKindsApartSpec)

/-- ITS FALSE NEIGHBOUR: 'it returns false'. Refute it at one input. -/
def fnWordsTellKindsApartWrong : ChangeSpec := { name := "fnWordsTellKindsApart", fn := fun _ => fun
  | [d1, d2] => { results := [.lit (.bool false)], args := [d1, d2] }
  | _ => none }
def FnWordsTellKindsApartWrongFalsely : Prop := fnWordsTellKindsApartRow.holds Trym.pinned (OpenSpec.ofChange fnWordsTellKindsApartWrong)

end Rows
end Go.Proofs.Qxb6600642aMods
