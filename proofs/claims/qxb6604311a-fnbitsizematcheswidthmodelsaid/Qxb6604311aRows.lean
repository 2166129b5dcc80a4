/-
  No cell of these rows narrows 'for every input' (looked for: loops, veiled, ifaces, maps, wideKeys, modest, calm, conditions, laid).
  DERIVED. THE GIVEN ROWS OF THIS SEAT. 2 by the template 'for every input the law returns true; each argument reads behind the call as it read before'; 0 by the template 'total and deterministic' (their statements: Qxb6604311aTotals.lean).
  GIVEN WITH THE SEED: the statements are not yours to turn. If you find one false, say at which input.
  Laid BY PROGRAM, IN A SANDBOX (cutbox-rows.mjs): the forced cells as the released guide's own fill.sh prints them over the translation ac2228aca5ff7717… (all of the seat's roots in one cut). By AI agents, Wed Nov 11 2026. No macro, syntax, notation, axiom, sorry.
-/
import Derived.Test.Qxb6604311aChecked
import GoSem.Claim
import GoSem.ClaimJoined
import GoSem.ClaimMapViews
import Derived.JoinedTies
import Derived.KernelRfl
namespace Go.Proofs.Qxb6604311a
/- THE CELL 'sum', in the pinned program and in every row, IS THE sha256 OF THE DUMP (.gsa) THAT Qxb6604311aProg.lean LOADS. Nothing in Lean hashes anything: it is a label: what it is worth is what the hold of that sum in a sandbox is worth. -/
noncomputable def Try.pinned : Pinned := { name := "qxb6604311a", sum := "ac2228aca5ff7717d5bdd2d64f1d26f59f9fbcbe1ec23119c1b3678c96a32748", checked := Try.checked }
namespace Rows
def none {H : Type} : Left H := { results := [], args := [] }

/-- 'zzlaws_root_b1.FnBitSizeMatchesWidthModel': WHATEVER THE INPUT: true; the input reads as it did. -/
def fnBitSizeMatchesWidthModelSpec : ChangeSpec := { name := "fnBitSizeMatchesWidthModel", fn := fun _ => fun
  | [d] => { results := [.lit (.bool true)], args := [d] }
  | _ => none }
def fnBitSizeMatchesWidthModelRow : OpenClaim := { program := "qxb6604311a", sum := "ac2228aca5ff7717d5bdd2d64f1d26f59f9fbcbe1ec23119c1b3678c96a32748", func := "example.com/unifold/unifold/zzlaws_root_b1.FnBitSizeMatchesWidthModel", spec := "fnBitSizeMatchesWidthModel", apart := false }
def FnBitSizeMatchesWidthModelSaid : Prop := fnBitSizeMatchesWidthModelRow.holds Try.pinned (OpenSpec.ofChange fnBitSizeMatchesWidthModelSpec)

/-- ITS FALSE NEIGHBOUR: 'it returns false'. Refute it at one input. -/
def fnBitSizeMatchesWidthModelWrong : ChangeSpec := { name := "fnBitSizeMatchesWidthModel", fn := fun _ => fun
  | [d] => { results := [.lit (.bool false)], args := [d] }
  | _ => none }
def FnBitSizeMatchesWidthModelWrongFalsely : Prop := fnBitSizeMatchesWidthModelRow.holds Try.pinned (OpenSpec.ofChange fnBitSizeMatchesWidthModelWrong)

/-- 'zzlaws_root_b1.FnBitSizeRange': WHATEVER THE INPUT: true; the input reads as it did. -/
def fnBitSizeRangeSpec : ChangeSpec := { name := "fnBitSizeRange", fn := fun _ => fun
  | [d] => { results := [.lit (.bool true)], args := [d] }
  | _ => none }
def fnBitSizeRangeRow : OpenClaim := { program := "qxb6604311a", sum := "ac2228aca5ff7717d5bdd2d64f1d26f59f9fbcbe1ec23119c1b3678c96a32748", func := "example.com/unifold/unifold/zzlaws_root_b1.FnBitSizeRange", spec := "fnBitSizeRange", apart := false }
def FnBitSizeRangeSaid : Prop := fnBitSizeRangeRow.holds Try.pinned (OpenSpec.ofChange fnBitSizeRangeSpec)

/-- ITS FALSE NEIGHBOUR: 'it returns false'. Refute it at one input. -/
def fnBitSizeRangeWrong : ChangeSpec := { name := "fnBitSizeRange", fn := fun _ => fun
  | [d] => { results := [.lit (.bool false)], args := [d] }
  | _ => none }
def FnBitSizeRangeWrongFalsely : Prop := fnBitSizeRangeRow.holds Try.pinned (OpenSpec.ofChange fnBitSizeRangeWrong)

end Rows
end Go.Proofs.Qxb6604311a
