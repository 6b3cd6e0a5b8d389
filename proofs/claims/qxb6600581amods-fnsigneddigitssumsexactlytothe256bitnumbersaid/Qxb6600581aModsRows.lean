/-
  No cell of these rows narrows 'for every input' (looked for: loops, veiled, ifaces, maps, wideKeys, modest, calm, conditions, laid).
  DERIVED. THE GIVEN ROWS OF THIS SEAT. 3 by the template 'for every input the law returns true; each argument reads behind the call as it read before'; 0 by the template 'total and deterministic' (their statements: Qxb6600581aModsTotals.lean).
  GIVEN WITH THE SEED: the statements are not yours to turn. If you find one false, say at which input.
  Laid BY PROGRAM, IN A SANDBOX (cutbox-rows.mjs): the forced cells as the released guide's own fill.sh prints them over the translation 53c99348273142f2… (all of the seat's roots in one cut). By AI agents, Wed Nov 11 2026. No macro, syntax, notation, axiom, sorry.
-/
import Derived.Test.Qxb6600581aModsChecked
import GoSem.Claim
import GoSem.ClaimJoined
import GoSem.ClaimMapViews
import Derived.JoinedTies
import Derived.KernelRfl
namespace Go.Proofs.Qxb6600581aMods
/- THE CELL 'sum', in the pinned program and in every row, IS THE sha256 OF THE DUMP (.gsa) THAT Qxb6600581aModsProg.lean LOADS. Nothing in Lean hashes anything: it is a label: what it is worth is what the hold of that sum in a sandbox is worth. -/
noncomputable def Trym.pinned : Pinned := { name := "qxb6600581amods", sum := "53c99348273142f20eff9a68168c578b0596c24cc67d60916764bdf16abb6ddd", checked := Trym.checked }
namespace Rows
def none {H : Type} : Left H := { results := [], args := [] }

/-- 'zzlaws_internal_signature_b1.FnSignedDigitsIsTheUniqueBalancedRadix32Form': WHATEVER THE INPUT: true; the input reads as it did. -/
def fnSignedDigitsIsTheUniqueBalancedRadix32FormSpec : ChangeSpec := { name := "fnSignedDigitsIsTheUniqueBalancedRadix32Form", fn := fun _ => fun
  | [d] => { results := [.lit (.bool true)], args := [d] }
  | _ => none }
def fnSignedDigitsIsTheUniqueBalancedRadix32FormRow : OpenClaim := { program := "qxb6600581amods", sum := "53c99348273142f20eff9a68168c578b0596c24cc67d60916764bdf16abb6ddd", func := "example.com/quorumward/quorumward/zzlaws_internal_signature_b1.FnSignedDigitsIsTheUniqueBalancedRadix32Form", spec := "fnSignedDigitsIsTheUniqueBalancedRadix32Form", make := .lifted ["publicsums"], apart := false }
def FnSignedDigitsIsTheUniqueBalancedRadix32FormSaid : Prop := fnSignedDigitsIsTheUniqueBalancedRadix32FormRow.holds Trym.pinned (OpenSpec.ofChange fnSignedDigitsIsTheUniqueBalancedRadix32FormSpec)

/-- ITS FALSE NEIGHBOUR: 'it returns false'. Refute it at one input. -/
def fnSignedDigitsIsTheUniqueBalancedRadix32FormWrong : ChangeSpec := { name := "fnSignedDigitsIsTheUniqueBalancedRadix32Form", fn := fun _ => fun
  | [d] => { results := [.lit (.bool false)], args := [d] }
  | _ => none }
def FnSignedDigitsIsTheUniqueBalancedRadix32FormWrongFalsely : Prop := fnSignedDigitsIsTheUniqueBalancedRadix32FormRow.holds Trym.pinned (OpenSpec.ofChange fnSignedDigitsIsTheUniqueBalancedRadix32FormWrong)

/-- 'zzlaws_internal_signature_b1.FnSignedDigitsSumsExactlyToThe256BitNumber': WHATEVER THE INPUT: true; the input reads as it did. -/
def fnSignedDigitsSumsExactlyToThe256BitNumberSpec : ChangeSpec := { name := "fnSignedDigitsSumsExactlyToThe256BitNumber", fn := fun _ => fun
  | [d] => { results := [.lit (.bool true)], args := [d] }
  | _ => none }
def fnSignedDigitsSumsExactlyToThe256BitNumberRow : OpenClaim := { program := "qxb6600581amods", sum := "53c99348273142f20eff9a68168c578b0596c24cc67d60916764bdf16abb6ddd", func := "example.com/quorumward/quorumward/zzlaws_internal_signature_b1.FnSignedDigitsSumsExactlyToThe256BitNumber", spec := "fnSignedDigitsSumsExactlyToThe256BitNumber", make := .lifted ["publicsums"], apart := false }
def FnSignedDigitsSumsExactlyToThe256BitNumberSaid : Prop := fnSignedDigitsSumsExactlyToThe256BitNumberRow.holds Trym.pinned (OpenSpec.ofChange fnSignedDigitsSumsExactlyToThe256BitNumberSpec)

/-- ITS FALSE NEIGHBOUR: 'it returns false'. Refute it at one input. -/
def fnSignedDigitsSumsExactlyToThe256BitNumberWrong : ChangeSpec := { name := "fnSignedDigitsSumsExactlyToThe256BitNumber", fn := fun _ => fun
  | [d] => { results := [.lit (.bool false)], args := [d] }
  | _ => none }
def FnSignedDigitsSumsExactlyToThe256BitNumberWrongFalsely : Prop := fnSignedDigitsSumsExactlyToThe256BitNumberRow.holds Trym.pinned (OpenSpec.ofChange fnSignedDigitsSumsExactlyToThe256BitNumberWrong)

/-- 'zzlaws_internal_signature_b1.FnSignedDigitsHangsOnlyOnTheLow260Bits': WHATEVER THE INPUT: true; the input reads as it did. -/
def fnSignedDigitsHangsOnlyOnTheLow260BitsSpec : ChangeSpec := { name := "fnSignedDigitsHangsOnlyOnTheLow260Bits", fn := fun _ => fun
  | [d] => { results := [.lit (.bool true)], args := [d] }
  | _ => none }
def fnSignedDigitsHangsOnlyOnTheLow260BitsRow : OpenClaim := { program := "qxb6600581amods", sum := "53c99348273142f20eff9a68168c578b0596c24cc67d60916764bdf16abb6ddd", func := "example.com/quorumward/quorumward/zzlaws_internal_signature_b1.FnSignedDigitsHangsOnlyOnTheLow260Bits", spec := "fnSignedDigitsHangsOnlyOnTheLow260Bits", make := .lifted ["publicsums"], apart := false }
def FnSignedDigitsHangsOnlyOnTheLow260BitsSaid : Prop := fnSignedDigitsHangsOnlyOnTheLow260BitsRow.holds Trym.pinned (OpenSpec.ofChange fnSignedDigitsHangsOnlyOnTheLow260BitsSpec)

/-- ITS FALSE NEIGHBOUR: 'it returns false'. Refute it at one input. -/
def fnSignedDigitsHangsOnlyOnTheLow260BitsWrong : ChangeSpec := { name := "fnSignedDigitsHangsOnlyOnTheLow260Bits", fn := fun _ => fun
  | [d] => { results := [.lit (.bool false)], args := [d] }
  | _ => none }
def FnSignedDigitsHangsOnlyOnTheLow260BitsWrongFalsely : Prop := fnSignedDigitsHangsOnlyOnTheLow260BitsRow.holds Trym.pinned (OpenSpec.ofChange fnSignedDigitsHangsOnlyOnTheLow260BitsWrong)

end Rows
end Go.Proofs.Qxb6600581aMods
