/-
  No cell of these rows narrows 'for every input' (looked for: loops, veiled, ifaces, maps, wideKeys, modest, calm, conditions, laid).
  DERIVED. THE GIVEN ROWS OF THIS SEAT. 3 by the template 'for every input the law returns true; each argument reads behind the call as it read before'; 0 by the template 'total and deterministic' (their statements: Qxb6617378aTotals.lean).
  GIVEN WITH THE SEED: the statements are not yours to turn. If you find one false, say at which input.
  Laid BY PROGRAM, IN A SANDBOX (cutbox-rows.mjs): the forced cells as the released guide's own fill.sh prints them over the translation 2987b24995ece933… (all of the seat's roots in one cut). By AI agents, Wed Nov 11 2026. No macro, syntax, notation, axiom, sorry.
-/
import Derived.Test.Qxb6617378aChecked
import GoSem.Claim
import GoSem.ClaimJoined
import GoSem.ClaimMapViews
import Derived.JoinedTies
import Derived.KernelRfl
namespace Go.Proofs.Qxb6617378a
/- THE CELL 'sum', in the pinned program and in every row, IS THE sha256 OF THE DUMP (.gsa) THAT Qxb6617378aProg.lean LOADS. Nothing in Lean hashes anything: it is a label: what it is worth is what the hold of that sum in a sandbox is worth. -/
noncomputable def Try.pinned : Pinned := { name := "qxb6617378a", sum := "2987b24995ece933d65b096cc6d8ac2db4dcbb78e29641612b63d48db8f3fcb9", checked := Try.checked }
namespace Rows
def none {H : Type} : Left H := { results := [], args := [] }

/-- 'zzlaws_internal_xmltree_b1.FnLookupIsLastDeclarationInDocumentOrder': WHATEVER THE INPUT: true; the input reads as it did. -/
def fnLookupIsLastDeclarationInDocumentOrderSpec : ChangeSpec := { name := "fnLookupIsLastDeclarationInDocumentOrder", fn := fun _ => fun
  | [d1, d2] => { results := [.lit (.bool true)], args := [d1, d2] }
  | _ => none }
def fnLookupIsLastDeclarationInDocumentOrderRow : OpenClaim := { program := "qxb6617378a", sum := "2987b24995ece933d65b096cc6d8ac2db4dcbb78e29641612b63d48db8f3fcb9", func := "example.com/garm/garm/zzlaws_internal_xmltree_b1.FnLookupIsLastDeclarationInDocumentOrder", spec := "fnLookupIsLastDeclarationInDocumentOrder", apart := false }
def FnLookupIsLastDeclarationInDocumentOrderSaid : Prop := fnLookupIsLastDeclarationInDocumentOrderRow.holds Try.pinned (OpenSpec.ofChange fnLookupIsLastDeclarationInDocumentOrderSpec)

/-- ITS FALSE NEIGHBOUR: 'it returns false'. Refute it at one input. -/
def fnLookupIsLastDeclarationInDocumentOrderWrong : ChangeSpec := { name := "fnLookupIsLastDeclarationInDocumentOrder", fn := fun _ => fun
  | [d1, d2] => { results := [.lit (.bool false)], args := [d1, d2] }
  | _ => none }
def FnLookupIsLastDeclarationInDocumentOrderWrongFalsely : Prop := fnLookupIsLastDeclarationInDocumentOrderRow.holds Try.pinned (OpenSpec.ofChange fnLookupIsLastDeclarationInDocumentOrderWrong)

/-- 'zzlaws_internal_xmltree_b1.FnLookupSplitsAtAnyCut': WHATEVER THE INPUT: true; the input reads as it did. -/
def fnLookupSplitsAtAnyCutSpec : ChangeSpec := { name := "fnLookupSplitsAtAnyCut", fn := fun _ => fun
  | [d1, d2, d3] => { results := [.lit (.bool true)], args := [d1, d2, d3] }
  | _ => none }
def fnLookupSplitsAtAnyCutRow : OpenClaim := { program := "qxb6617378a", sum := "2987b24995ece933d65b096cc6d8ac2db4dcbb78e29641612b63d48db8f3fcb9", func := "example.com/garm/garm/zzlaws_internal_xmltree_b1.FnLookupSplitsAtAnyCut", spec := "fnLookupSplitsAtAnyCut", apart := false }
def FnLookupSplitsAtAnyCutSaid : Prop := fnLookupSplitsAtAnyCutRow.holds Try.pinned (OpenSpec.ofChange fnLookupSplitsAtAnyCutSpec)

/-- ITS FALSE NEIGHBOUR: 'it returns false'. Refute it at one input. -/
def fnLookupSplitsAtAnyCutWrong : ChangeSpec := { name := "fnLookupSplitsAtAnyCut", fn := fun _ => fun
  | [d1, d2, d3] => { results := [.lit (.bool false)], args := [d1, d2, d3] }
  | _ => none }
def FnLookupSplitsAtAnyCutWrongFalsely : Prop := fnLookupSplitsAtAnyCutRow.holds Try.pinned (OpenSpec.ofChange fnLookupSplitsAtAnyCutWrong)

/-- 'zzlaws_internal_xmltree_b1.FnLookupNewDeclarationShadows': WHATEVER THE INPUT: true; the input reads as it did. -/
def fnLookupNewDeclarationShadowsSpec : ChangeSpec := { name := "fnLookupNewDeclarationShadows", fn := fun _ => fun
  | [d1, d2, d3, d4] => { results := [.lit (.bool true)], args := [d1, d2, d3, d4] }
  | _ => none }
def fnLookupNewDeclarationShadowsRow : OpenClaim := { program := "qxb6617378a", sum := "2987b24995ece933d65b096cc6d8ac2db4dcbb78e29641612b63d48db8f3fcb9", func := "example.com/garm/garm/zzlaws_internal_xmltree_b1.FnLookupNewDeclarationShadows", spec := "fnLookupNewDeclarationShadows", apart := false }
def FnLookupNewDeclarationShadowsSaid : Prop := fnLookupNewDeclarationShadowsRow.holds Try.pinned (OpenSpec.ofChange fnLookupNewDeclarationShadowsSpec)

/-- ITS FALSE NEIGHBOUR: 'it returns false'. Refute it at one input. -/
def fnLookupNewDeclarationShadowsWrong : ChangeSpec := { name := "fnLookupNewDeclarationShadows", fn := fun _ => fun
  | [d1, d2, d3, d4] => { results := [.lit (.bool false)], args := [d1, d2, d3, d4] }
  | _ => none }
def FnLookupNewDeclarationShadowsWrongFalsely : Prop := fnLookupNewDeclarationShadowsRow.holds Try.pinned (OpenSpec.ofChange fnLookupNewDeclarationShadowsWrong)

end Rows
end Go.Proofs.Qxb6617378a
