/-
  No cell of these rows narrows 'for every input' (looked for: loops, veiled, ifaces, maps, wideKeys, modest, calm, conditions, laid).
  DERIVED. THE GIVEN ROWS OF THIS SEAT. 4 by the template 'for every input the law returns true; each argument reads behind the call as it read before'; 0 by the template 'total and deterministic' (their statements: Qxb6617398aTotals.lean).
  GIVEN WITH THE SEED: the statements are not yours to turn. If you find one false, say at which input.
  Laid BY PROGRAM, IN A SANDBOX (cutbox-rows.mjs): the forced cells as the released guide's own fill.sh prints them over the translation 6a46e4682a8f421d… (all of the seat's roots in one cut). By AI agents, Wed Nov 11 2026. No macro, syntax, notation, axiom, sorry.
-/
import Derived.Test.Qxb6617398aChecked
import GoSem.Claim
import GoSem.ClaimJoined
import GoSem.ClaimMapViews
import Derived.JoinedTies
import Derived.KernelRfl
namespace Go.Proofs.Qxb6617398a
/- THE CELL 'sum', in the pinned program and in every row, IS THE sha256 OF THE DUMP (.gsa) THAT Qxb6617398aProg.lean LOADS. Nothing in Lean hashes anything: it is a label: what it is worth is what the hold of that sum in a sandbox is worth. -/
noncomputable def Try.pinned : Pinned := { name := "qxb6617398a", sum := "6a46e4682a8f421d8d4d8bd6f768fbd19bb64bb922ed590a4e6c6446b751939d", checked := Try.checked }
namespace Rows
def none {H : Type} : Left H := { results := [], args := [] }

/-- 'zzlaws_internal_packtest_b1.FnLineStartsOfJoinedText': WHATEVER THE INPUT: true; the input reads as it did. -/
def fnLineStartsOfJoinedTextSpec : ChangeSpec := { name := "fnLineStartsOfJoinedText", fn := fun _ => fun
  | [d1, d2] => { results := [.lit (.bool true)], args := [d1, d2] }
  | _ => none }
def fnLineStartsOfJoinedTextRow : OpenClaim := { program := "qxb6617398a", sum := "6a46e4682a8f421d8d4d8bd6f768fbd19bb64bb922ed590a4e6c6446b751939d", func := "example.com/fanout/fanout/zzlaws_internal_packtest_b1.FnLineStartsOfJoinedText", spec := "fnLineStartsOfJoinedText", apart := false }
def FnLineStartsOfJoinedTextSaid : Prop := fnLineStartsOfJoinedTextRow.holds Try.pinned (OpenSpec.ofChange fnLineStartsOfJoinedTextSpec)

/-- ITS FALSE NEIGHBOUR: 'it returns false'. Refute it at one input. -/
def fnLineStartsOfJoinedTextWrong : ChangeSpec := { name := "fnLineStartsOfJoinedText", fn := fun _ => fun
  | [d1, d2] => { results := [.lit (.bool false)], args := [d1, d2] }
  | _ => none }
def FnLineStartsOfJoinedTextWrongFalsely : Prop := fnLineStartsOfJoinedTextRow.holds Try.pinned (OpenSpec.ofChange fnLineStartsOfJoinedTextWrong)

/-- 'zzlaws_internal_packtest_b1.FnJoinOfARunCutAnywhere': WHATEVER THE INPUT: true; the input reads as it did. -/
def fnJoinOfARunCutAnywhereSpec : ChangeSpec := { name := "fnJoinOfARunCutAnywhere", fn := fun _ => fun
  | [d1, d2, d3, d4] => { results := [.lit (.bool true)], args := [d1, d2, d3, d4] }
  | _ => none }
def fnJoinOfARunCutAnywhereRow : OpenClaim := { program := "qxb6617398a", sum := "6a46e4682a8f421d8d4d8bd6f768fbd19bb64bb922ed590a4e6c6446b751939d", func := "example.com/fanout/fanout/zzlaws_internal_packtest_b1.FnJoinOfARunCutAnywhere", spec := "fnJoinOfARunCutAnywhere", apart := false }
def FnJoinOfARunCutAnywhereSaid : Prop := fnJoinOfARunCutAnywhereRow.holds Try.pinned (OpenSpec.ofChange fnJoinOfARunCutAnywhereSpec)

/-- ITS FALSE NEIGHBOUR: 'it returns false'. Refute it at one input. -/
def fnJoinOfARunCutAnywhereWrong : ChangeSpec := { name := "fnJoinOfARunCutAnywhere", fn := fun _ => fun
  | [d1, d2, d3, d4] => { results := [.lit (.bool false)], args := [d1, d2, d3, d4] }
  | _ => none }
def FnJoinOfARunCutAnywhereWrongFalsely : Prop := fnJoinOfARunCutAnywhereRow.holds Try.pinned (OpenSpec.ofChange fnJoinOfARunCutAnywhereWrong)

/-- 'zzlaws_internal_packtest_b1.FnJoinFoldIsTheNormalForm': WHATEVER THE INPUT: true; the input reads as it did. -/
def fnJoinFoldIsTheNormalFormSpec : ChangeSpec := { name := "fnJoinFoldIsTheNormalForm", fn := fun _ => fun
  | [d] => { results := [.lit (.bool true)], args := [d] }
  | _ => none }
def fnJoinFoldIsTheNormalFormRow : OpenClaim := { program := "qxb6617398a", sum := "6a46e4682a8f421d8d4d8bd6f768fbd19bb64bb922ed590a4e6c6446b751939d", func := "example.com/fanout/fanout/zzlaws_internal_packtest_b1.FnJoinFoldIsTheNormalForm", spec := "fnJoinFoldIsTheNormalForm", apart := false }
def FnJoinFoldIsTheNormalFormSaid : Prop := fnJoinFoldIsTheNormalFormRow.holds Try.pinned (OpenSpec.ofChange fnJoinFoldIsTheNormalFormSpec)

/-- ITS FALSE NEIGHBOUR: 'it returns false'. Refute it at one input. -/
def fnJoinFoldIsTheNormalFormWrong : ChangeSpec := { name := "fnJoinFoldIsTheNormalForm", fn := fun _ => fun
  | [d] => { results := [.lit (.bool false)], args := [d] }
  | _ => none }
def FnJoinFoldIsTheNormalFormWrongFalsely : Prop := fnJoinFoldIsTheNormalFormRow.holds Try.pinned (OpenSpec.ofChange fnJoinFoldIsTheNormalFormWrong)

/-- 'zzlaws_internal_packtest_b1.FnRebaseCopiesWhatTheVersionBeforeHeld': WHATEVER THE INPUT: true; the input reads as it did. -/
def fnRebaseCopiesWhatTheVersionBeforeHeldSpec : ChangeSpec := { name := "fnRebaseCopiesWhatTheVersionBeforeHeld", fn := fun _ => fun
  | [d1, d2] => { results := [.lit (.bool true)], args := [d1, d2] }
  | _ => none }
def fnRebaseCopiesWhatTheVersionBeforeHeldRow : OpenClaim := { program := "qxb6617398a", sum := "6a46e4682a8f421d8d4d8bd6f768fbd19bb64bb922ed590a4e6c6446b751939d", func := "example.com/fanout/fanout/zzlaws_internal_packtest_b1.FnRebaseCopiesWhatTheVersionBeforeHeld", spec := "fnRebaseCopiesWhatTheVersionBeforeHeld", apart := false }
def FnRebaseCopiesWhatTheVersionBeforeHeldSaid : Prop := fnRebaseCopiesWhatTheVersionBeforeHeldRow.holds Try.pinned (OpenSpec.ofChange fnRebaseCopiesWhatTheVersionBeforeHeldSpec)

/-- ITS FALSE NEIGHBOUR: 'it returns false'. Refute it at one input. -/
def fnRebaseCopiesWhatTheVersionBeforeHeldWrong : ChangeSpec := { name := "fnRebaseCopiesWhatTheVersionBeforeHeld", fn := fun _ => fun
  | [d1, d2] => { results := [.lit (.bool false)], args := [d1, d2] }
  | _ => none }
def FnRebaseCopiesWhatTheVersionBeforeHeldWrongFalsely : Prop := fnRebaseCopiesWhatTheVersionBeforeHeldRow.holds Try.pinned (OpenSpec.ofChange fnRebaseCopiesWhatTheVersionBeforeHeldWrong)

end Rows
end Go.Proofs.Qxb6617398a
