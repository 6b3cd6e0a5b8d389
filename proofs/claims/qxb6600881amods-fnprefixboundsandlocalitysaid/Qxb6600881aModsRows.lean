/-
  No cell of these rows narrows 'for every input' (looked for: loops, veiled, ifaces, maps, wideKeys, modest, calm, conditions, laid).
  DERIVED. THE GIVEN ROWS OF THIS SEAT. 2 by the template 'for every input the law returns true; each argument reads behind the call as it read before'; 0 by the template 'total and deterministic' (their statements: Qxb6600881aModsTotals.lean).
  GIVEN WITH THE SEED: the statements are not yours to turn. If you find one false, say at which input.
  Laid BY PROGRAM, IN A SANDBOX (cutbox-rows.mjs): the forced cells as the released guide's own fill.sh prints them over the translation cef45fe3e2721ffc… (all of the seat's roots in one cut). By AI agents, Wed Nov 11 2026. No macro, syntax, notation, axiom, sorry.
-/
import Derived.Test.Qxb6600881aModsChecked
import GoSem.Claim
import GoSem.ClaimJoined
import GoSem.ClaimMapViews
import Derived.JoinedTies
import Derived.KernelRfl
namespace Go.Proofs.Qxb6600881aMods
/- THE CELL 'sum', in the pinned program and in every row, IS THE sha256 OF THE DUMP (.gsa) THAT Qxb6600881aModsProg.lean LOADS. Nothing in Lean hashes anything: it is a label: what it is worth is what the hold of that sum in a sandbox is worth. -/
noncomputable def Trym.pinned : Pinned := { name := "qxb6600881amods", sum := "cef45fe3e2721ffcd0a6108fee75597d707a5ee1e85a2f3aa03fc647b17cd593", checked := Trym.checked }
namespace Rows
def none {H : Type} : Left H := { results := [], args := [] }

/-- 'zzlaws_pkg_audit_b1.FnPrefixIdempotent': WHATEVER THE INPUT: true; the input reads as it did. -/
def fnPrefixIdempotentSpec : ChangeSpec := { name := "fnPrefixIdempotent", fn := fun _ => fun
  | [d] => { results := [.lit (.bool true)], args := [d] }
  | _ => none }
def fnPrefixIdempotentRow : OpenClaim := { program := "qxb6600881amods", sum := "cef45fe3e2721ffcd0a6108fee75597d707a5ee1e85a2f3aa03fc647b17cd593", func := "example.com/patina/patina/zzlaws_pkg_audit_b1.FnPrefixIdempotent", spec := "fnPrefixIdempotent", make := .lifted ["publicsums"], apart := false }
def FnPrefixIdempotentSaid : Prop := fnPrefixIdempotentRow.holds Trym.pinned (OpenSpec.ofChange fnPrefixIdempotentSpec)

/-- ITS FALSE NEIGHBOUR: 'it returns false'. Refute it at one input. -/
def fnPrefixIdempotentWrong : ChangeSpec := { name := "fnPrefixIdempotent", fn := fun _ => fun
  | [d] => { results := [.lit (.bool false)], args := [d] }
  | _ => none }
def FnPrefixIdempotentWrongFalsely : Prop := fnPrefixIdempotentRow.holds Trym.pinned (OpenSpec.ofChange fnPrefixIdempotentWrong)

/-- 'zzlaws_pkg_audit_b1.FnPrefixBoundsAndLocality': WHATEVER THE INPUT: true; the input reads as it did. -/
def fnPrefixBoundsAndLocalitySpec : ChangeSpec := { name := "fnPrefixBoundsAndLocality", fn := fun _ => fun
  | [d] => { results := [.lit (.bool true)], args := [d] }
  | _ => none }
def fnPrefixBoundsAndLocalityRow : OpenClaim := { program := "qxb6600881amods", sum := "cef45fe3e2721ffcd0a6108fee75597d707a5ee1e85a2f3aa03fc647b17cd593", func := "example.com/patina/patina/zzlaws_pkg_audit_b1.FnPrefixBoundsAndLocality", spec := "fnPrefixBoundsAndLocality", make := .lifted ["publicsums"], apart := false }
def FnPrefixBoundsAndLocalitySaid : Prop := fnPrefixBoundsAndLocalityRow.holds Trym.pinned (OpenSpec.ofChange fnPrefixBoundsAndLocalitySpec)

/-- ITS FALSE NEIGHBOUR: 'it returns false'. Refute it at one input. -/
def fnPrefixBoundsAndLocalityWrong : ChangeSpec := { name := "fnPrefixBoundsAndLocality", fn := fun _ => fun
  | [d] => { results := [.lit (.bool false)], args := [d] }
  | _ => none }
def FnPrefixBoundsAndLocalityWrongFalsely : Prop := fnPrefixBoundsAndLocalityRow.holds Trym.pinned (OpenSpec.ofChange fnPrefixBoundsAndLocalityWrong)

end Rows
end Go.Proofs.Qxb6600881aMods
