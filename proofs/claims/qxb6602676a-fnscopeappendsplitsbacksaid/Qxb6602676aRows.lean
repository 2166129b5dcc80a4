/-
  No cell of these rows narrows 'for every input' (looked for: loops, veiled, ifaces, maps, wideKeys, modest, calm, conditions, laid).
  DERIVED. THE GIVEN ROWS OF THIS SEAT. 1 by the template 'for every input the law returns true; each argument reads behind the call as it read before'; 0 by the template 'total and deterministic' (their statements: Qxb6602676aTotals.lean).
  GIVEN WITH THE SEED: the statements are not yours to turn. If you find one false, say at which input.
  Laid BY PROGRAM, IN A SANDBOX (cutbox-rows.mjs): the forced cells as the released guide's own fill.sh prints them over the translation a2d22ac687d1068a… (all of the seat's roots in one cut). By AI agents, Wed Nov 11 2026. No macro, syntax, notation, axiom, sorry.
-/
import Derived.Test.Qxb6602676aChecked
import GoSem.Claim
import GoSem.ClaimJoined
import GoSem.ClaimMapViews
import Derived.JoinedTies
import Derived.KernelRfl
namespace Go.Proofs.Qxb6602676a
/- THE CELL 'sum', in the pinned program and in every row, IS THE sha256 OF THE DUMP (.gsa) THAT Qxb6602676aProg.lean LOADS. Nothing in Lean hashes anything: it is a label: what it is worth is what the hold of that sum in a sandbox is worth. -/
noncomputable def Try.pinned : Pinned := { name := "qxb6602676a", sum := "a2d22ac687d1068a6cb0d45365dff602029921529120d741c974bb26c70c705f", checked := Try.checked }
namespace Rows
def none {H : Type} : Left H := { results := [], args := [] }

/-- 'zzlaws_sigv4_b1.FnScopeAppendSplitsBack': WHATEVER THE INPUT: true; the input reads as it did. -/
def fnScopeAppendSplitsBackSpec : ChangeSpec := { name := "fnScopeAppendSplitsBack", fn := fun _ => fun
  | [d1, d2, d3, d4] => { results := [.lit (.bool true)], args := [d1, d2, d3, d4] }
  | _ => none }
def fnScopeAppendSplitsBackRow : OpenClaim := { program := "qxb6602676a", sum := "a2d22ac687d1068a6cb0d45365dff602029921529120d741c974bb26c70c705f", func := "example.com/nutcracker/nutcracker/zzlaws_sigv4_b1.FnScopeAppendSplitsBack", spec := "fnScopeAppendSplitsBack", apart := false }
def FnScopeAppendSplitsBackSaid : Prop := fnScopeAppendSplitsBackRow.holds Try.pinned (OpenSpec.ofChange fnScopeAppendSplitsBackSpec)

/-- ITS FALSE NEIGHBOUR: 'it returns false'. Refute it at one input. -/
def fnScopeAppendSplitsBackWrong : ChangeSpec := { name := "fnScopeAppendSplitsBack", fn := fun _ => fun
  | [d1, d2, d3, d4] => { results := [.lit (.bool false)], args := [d1, d2, d3, d4] }
  | _ => none }
def FnScopeAppendSplitsBackWrongFalsely : Prop := fnScopeAppendSplitsBackRow.holds Try.pinned (OpenSpec.ofChange fnScopeAppendSplitsBackWrong)

end Rows
end Go.Proofs.Qxb6602676a
