/-
  No cell of these rows narrows 'for every input' (looked for: loops, veiled, ifaces, maps, wideKeys, modest, calm, conditions, laid).
  DERIVED. THE GIVEN ROWS OF THIS SEAT. 3 by the template 'for every input the law returns true; each argument reads behind the call as it read before'; 0 by the template 'total and deterministic' (their statements: Qxb6601745aTotals.lean).
  GIVEN WITH THE SEED: the statements are not yours to turn. If you find one false, say at which input.
  Laid BY PROGRAM, IN A SANDBOX (cutbox-rows.mjs): the forced cells as the released guide's own fill.sh prints them over the translation 43695b26e92e3eab… (all of the seat's roots in one cut). By AI agents, Wed Nov 11 2026. No macro, syntax, notation, axiom, sorry.
-/
import Derived.Test.Qxb6601745aChecked
import GoSem.Claim
import GoSem.ClaimJoined
import GoSem.ClaimMapViews
import Derived.JoinedTies
import Derived.KernelRfl
namespace Go.Proofs.Qxb6601745a
/- THE CELL 'sum', in the pinned program and in every row, IS THE sha256 OF THE DUMP (.gsa) THAT Qxb6601745aProg.lean LOADS. Nothing in Lean hashes anything: it is a label: what it is worth is what the hold of that sum in a sandbox is worth. -/
noncomputable def Try.pinned : Pinned := { name := "qxb6601745a", sum := "43695b26e92e3eabec126e2ac388464d37196eb9fc8e0e50f04d44edab1c7647", checked := Try.checked }
namespace Rows
def none {H : Type} : Left H := { results := [], args := [] }

/-- 'zzlaws_internal_jsonread_b1.FnParseIntMatchesModel': WHATEVER THE INPUT: true; the input reads as it did. -/
def fnParseIntMatchesModelSpec : ChangeSpec := { name := "fnParseIntMatchesModel", fn := fun _ => fun
  | [d] => { results := [.lit (.bool true)], args := [d] }
  | _ => none }
def fnParseIntMatchesModelRow : OpenClaim := { program := "qxb6601745a", sum := "43695b26e92e3eabec126e2ac388464d37196eb9fc8e0e50f04d44edab1c7647", func := "example.com/purser/purser/zzlaws_internal_jsonread_b1.FnParseIntMatchesModel", spec := "fnParseIntMatchesModel", apart := false }
def FnParseIntMatchesModelSaid : Prop := fnParseIntMatchesModelRow.holds Try.pinned (OpenSpec.ofChange fnParseIntMatchesModelSpec)

/-- ITS FALSE NEIGHBOUR: 'it returns false'. Refute it at one input. -/
def fnParseIntMatchesModelWrong : ChangeSpec := { name := "fnParseIntMatchesModel", fn := fun _ => fun
  | [d] => { results := [.lit (.bool false)], args := [d] }
  | _ => none }
def FnParseIntMatchesModelWrongFalsely : Prop := fnParseIntMatchesModelRow.holds Try.pinned (OpenSpec.ofChange fnParseIntMatchesModelWrong)

/-- 'zzlaws_internal_jsonread_b1.FnParseIntInvertsDecimal': WHATEVER THE INPUT: true; the input reads as it did. -/
def fnParseIntInvertsDecimalSpec : ChangeSpec := { name := "fnParseIntInvertsDecimal", fn := fun _ => fun
  | [d] => { results := [.lit (.bool true)], args := [d] }
  | _ => none }
def fnParseIntInvertsDecimalRow : OpenClaim := { program := "qxb6601745a", sum := "43695b26e92e3eabec126e2ac388464d37196eb9fc8e0e50f04d44edab1c7647", func := "example.com/purser/purser/zzlaws_internal_jsonread_b1.FnParseIntInvertsDecimal", spec := "fnParseIntInvertsDecimal", apart := false }
def FnParseIntInvertsDecimalSaid : Prop := fnParseIntInvertsDecimalRow.holds Try.pinned (OpenSpec.ofChange fnParseIntInvertsDecimalSpec)

/-- ITS FALSE NEIGHBOUR: 'it returns false'. Refute it at one input. -/
def fnParseIntInvertsDecimalWrong : ChangeSpec := { name := "fnParseIntInvertsDecimal", fn := fun _ => fun
  | [d] => { results := [.lit (.bool false)], args := [d] }
  | _ => none }
def FnParseIntInvertsDecimalWrongFalsely : Prop := fnParseIntInvertsDecimalRow.holds Try.pinned (OpenSpec.ofChange fnParseIntInvertsDecimalWrong)

/-- 'zzlaws_internal_jsonread_b1.FnParseIntSignSymmetry': WHATEVER THE INPUT: true; the input reads as it did. -/
def fnParseIntSignSymmetrySpec : ChangeSpec := { name := "fnParseIntSignSymmetry", fn := fun _ => fun
  | [d] => { results := [.lit (.bool true)], args := [d] }
  | _ => none }
def fnParseIntSignSymmetryRow : OpenClaim := { program := "qxb6601745a", sum := "43695b26e92e3eabec126e2ac388464d37196eb9fc8e0e50f04d44edab1c7647", func := "example.com/purser/purser/zzlaws_internal_jsonread_b1.FnParseIntSignSymmetry", spec := "fnParseIntSignSymmetry", apart := false }
def FnParseIntSignSymmetrySaid : Prop := fnParseIntSignSymmetryRow.holds Try.pinned (OpenSpec.ofChange fnParseIntSignSymmetrySpec)

/-- ITS FALSE NEIGHBOUR: 'it returns false'. Refute it at one input. -/
def fnParseIntSignSymmetryWrong : ChangeSpec := { name := "fnParseIntSignSymmetry", fn := fun _ => fun
  | [d] => { results := [.lit (.bool false)], args := [d] }
  | _ => none }
def FnParseIntSignSymmetryWrongFalsely : Prop := fnParseIntSignSymmetryRow.holds Try.pinned (OpenSpec.ofChange fnParseIntSignSymmetryWrong)

end Rows
end Go.Proofs.Qxb6601745a
