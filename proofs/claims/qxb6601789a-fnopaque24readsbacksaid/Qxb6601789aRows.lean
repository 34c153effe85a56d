/-
  No cell of these rows narrows 'for every input' (looked for: loops, veiled, ifaces, maps, wideKeys, modest, calm, conditions, laid).
  DERIVED. THE GIVEN ROWS OF THIS SEAT. 5 by the template 'for every input the law returns true; each argument reads behind the call as it read before'; 0 by the template 'total and deterministic' (their statements: Qxb6601789aTotals.lean).
  GIVEN WITH THE SEED: the statements are not yours to turn. If you find one false, say at which input.
  Laid BY PROGRAM, IN A SANDBOX (cutbox-rows.mjs): the forced cells as the released guide's own fill.sh prints them over the translation 3618f49c2921a991… (all of the seat's roots in one cut). By AI agents, Wed Nov 11 2026. No macro, syntax, notation, axiom, sorry.
-/
import Derived.Test.Qxb6601789aChecked
import GoSem.Claim
import GoSem.ClaimJoined
import GoSem.ClaimMapViews
import Derived.JoinedTies
import Derived.KernelRfl
namespace Go.Proofs.Qxb6601789a
/- THE CELL 'sum', in the pinned program and in every row, IS THE sha256 OF THE DUMP (.gsa) THAT Qxb6601789aProg.lean LOADS. Nothing in Lean hashes anything: it is a label: what it is worth is what the hold of that sum in a sandbox is worth. -/
noncomputable def Try.pinned : Pinned := { name := "qxb6601789a", sum := "3618f49c2921a991dc7702f3c2315e589170c8f71cc5ee3a644d5513b4339285", checked := Try.checked }
namespace Rows
def none {H : Type} : Left H := { results := [], args := [] }

/-- 'zzlaws_internal_rfc6962_b1.FnTakeScriptConsumesInOrder': WHATEVER THE INPUT: true; the input reads as it did. -/
def fnTakeScriptConsumesInOrderSpec : ChangeSpec := { name := "fnTakeScriptConsumesInOrder", fn := fun _ => fun
  | [d1, d2, d3] => { results := [.lit (.bool true)], args := [d1, d2, d3] }
  | _ => none }
def fnTakeScriptConsumesInOrderRow : OpenClaim := { program := "qxb6601789a", sum := "3618f49c2921a991dc7702f3c2315e589170c8f71cc5ee3a644d5513b4339285", func := "example.com/heliotile/heliotile/zzlaws_internal_rfc6962_b1.FnTakeScriptConsumesInOrder", spec := "fnTakeScriptConsumesInOrder", apart := false }
def FnTakeScriptConsumesInOrderSaid : Prop := fnTakeScriptConsumesInOrderRow.holds Try.pinned (OpenSpec.ofChange fnTakeScriptConsumesInOrderSpec)

/-- ITS FALSE NEIGHBOUR: 'it returns false'. Refute it at one input. -/
def fnTakeScriptConsumesInOrderWrong : ChangeSpec := { name := "fnTakeScriptConsumesInOrder", fn := fun _ => fun
  | [d1, d2, d3] => { results := [.lit (.bool false)], args := [d1, d2, d3] }
  | _ => none }
def FnTakeScriptConsumesInOrderWrongFalsely : Prop := fnTakeScriptConsumesInOrderRow.holds Try.pinned (OpenSpec.ofChange fnTakeScriptConsumesInOrderWrong)

/-- 'zzlaws_internal_rfc6962_b1.FnIntegerSpec': WHATEVER THE INPUT: true; the input reads as it did. -/
def fnIntegerSpecSpec : ChangeSpec := { name := "fnIntegerSpec", fn := fun _ => fun
  | [d1, d2, d3] => { results := [.lit (.bool true)], args := [d1, d2, d3] }
  | _ => none }
def fnIntegerSpecRow : OpenClaim := { program := "qxb6601789a", sum := "3618f49c2921a991dc7702f3c2315e589170c8f71cc5ee3a644d5513b4339285", func := "example.com/heliotile/heliotile/zzlaws_internal_rfc6962_b1.FnIntegerSpec", spec := "fnIntegerSpec", apart := false }
def FnIntegerSpecSaid : Prop := fnIntegerSpecRow.holds Try.pinned (OpenSpec.ofChange fnIntegerSpecSpec)

/-- ITS FALSE NEIGHBOUR: 'it returns false'. Refute it at one input. -/
def fnIntegerSpecWrong : ChangeSpec := { name := "fnIntegerSpec", fn := fun _ => fun
  | [d1, d2, d3] => { results := [.lit (.bool false)], args := [d1, d2, d3] }
  | _ => none }
def FnIntegerSpecWrongFalsely : Prop := fnIntegerSpecRow.holds Try.pinned (OpenSpec.ofChange fnIntegerSpecWrong)

/-- 'zzlaws_internal_rfc6962_b1.FnIntegerSplitsIntoTwoReads': WHATEVER THE INPUT: true; the input reads as it did. -/
def fnIntegerSplitsIntoTwoReadsSpec : ChangeSpec := { name := "fnIntegerSplitsIntoTwoReads", fn := fun _ => fun
  | [d1, d2, d3, d4] => { results := [.lit (.bool true)], args := [d1, d2, d3, d4] }
  | _ => none }
def fnIntegerSplitsIntoTwoReadsRow : OpenClaim := { program := "qxb6601789a", sum := "3618f49c2921a991dc7702f3c2315e589170c8f71cc5ee3a644d5513b4339285", func := "example.com/heliotile/heliotile/zzlaws_internal_rfc6962_b1.FnIntegerSplitsIntoTwoReads", spec := "fnIntegerSplitsIntoTwoReads", apart := false }
def FnIntegerSplitsIntoTwoReadsSaid : Prop := fnIntegerSplitsIntoTwoReadsRow.holds Try.pinned (OpenSpec.ofChange fnIntegerSplitsIntoTwoReadsSpec)

/-- ITS FALSE NEIGHBOUR: 'it returns false'. Refute it at one input. -/
def fnIntegerSplitsIntoTwoReadsWrong : ChangeSpec := { name := "fnIntegerSplitsIntoTwoReads", fn := fun _ => fun
  | [d1, d2, d3, d4] => { results := [.lit (.bool false)], args := [d1, d2, d3, d4] }
  | _ => none }
def FnIntegerSplitsIntoTwoReadsWrongFalsely : Prop := fnIntegerSplitsIntoTwoReadsRow.holds Try.pinned (OpenSpec.ofChange fnIntegerSplitsIntoTwoReadsWrong)

/-- 'zzlaws_internal_rfc6962_b1.FnAppendOpaque24PrefixFree': WHATEVER THE INPUT: true; the input reads as it did. -/
def fnAppendOpaque24PrefixFreeSpec : ChangeSpec := { name := "fnAppendOpaque24PrefixFree", fn := fun _ => fun
  | [d1, d2] => { results := [.lit (.bool true)], args := [d1, d2] }
  | _ => none }
def fnAppendOpaque24PrefixFreeRow : OpenClaim := { program := "qxb6601789a", sum := "3618f49c2921a991dc7702f3c2315e589170c8f71cc5ee3a644d5513b4339285", func := "example.com/heliotile/heliotile/zzlaws_internal_rfc6962_b1.FnAppendOpaque24PrefixFree", spec := "fnAppendOpaque24PrefixFree", apart := false }
def FnAppendOpaque24PrefixFreeSaid : Prop := fnAppendOpaque24PrefixFreeRow.holds Try.pinned (OpenSpec.ofChange fnAppendOpaque24PrefixFreeSpec)

/-- ITS FALSE NEIGHBOUR: 'it returns false'. Refute it at one input. -/
def fnAppendOpaque24PrefixFreeWrong : ChangeSpec := { name := "fnAppendOpaque24PrefixFree", fn := fun _ => fun
  | [d1, d2] => { results := [.lit (.bool false)], args := [d1, d2] }
  | _ => none }
def FnAppendOpaque24PrefixFreeWrongFalsely : Prop := fnAppendOpaque24PrefixFreeRow.holds Try.pinned (OpenSpec.ofChange fnAppendOpaque24PrefixFreeWrong)

/-- 'zzlaws_internal_rfc6962_b1.FnOpaque24ReadsBack': WHATEVER THE INPUT: true; the input reads as it did. -/
def fnOpaque24ReadsBackSpec : ChangeSpec := { name := "fnOpaque24ReadsBack", fn := fun _ => fun
  | [d1, d2] => { results := [.lit (.bool true)], args := [d1, d2] }
  | _ => none }
def fnOpaque24ReadsBackRow : OpenClaim := { program := "qxb6601789a", sum := "3618f49c2921a991dc7702f3c2315e589170c8f71cc5ee3a644d5513b4339285", func := "example.com/heliotile/heliotile/zzlaws_internal_rfc6962_b1.FnOpaque24ReadsBack", spec := "fnOpaque24ReadsBack", apart := false }
def FnOpaque24ReadsBackSaid : Prop := fnOpaque24ReadsBackRow.holds Try.pinned (OpenSpec.ofChange fnOpaque24ReadsBackSpec)

/-- ITS FALSE NEIGHBOUR: 'it returns false'. Refute it at one input. -/
def fnOpaque24ReadsBackWrong : ChangeSpec := { name := "fnOpaque24ReadsBack", fn := fun _ => fun
  | [d1, d2] => { results := [.lit (.bool false)], args := [d1, d2] }
  | _ => none }
def FnOpaque24ReadsBackWrongFalsely : Prop := fnOpaque24ReadsBackRow.holds Try.pinned (OpenSpec.ofChange fnOpaque24ReadsBackWrong)

end Rows
end Go.Proofs.Qxb6601789a
