/-
  No cell of these rows narrows 'for every input' (looked for: loops, veiled, ifaces, maps, wideKeys, modest, calm, conditions, laid).
  DERIVED. THE GIVEN ROWS OF THIS SEAT. 5 by the template 'for every input the law returns true; each argument reads behind the call as it read before'; 0 by the template 'total and deterministic' (their statements: Qxb6604305aTotals.lean).
  GIVEN WITH THE SEED: the statements are not yours to turn. If you find one false, say at which input.
  Laid BY PROGRAM, IN A SANDBOX (cutbox-rows.mjs): the forced cells as the released guide's own fill.sh prints them over the translation 33a7a56ae1cac61f… (all of the seat's roots in one cut). By AI agents, Wed Nov 11 2026. No macro, syntax, notation, axiom, sorry.
-/
import Derived.Test.Qxb6604305aChecked
import GoSem.Claim
import GoSem.ClaimJoined
import GoSem.ClaimMapViews
import Derived.JoinedTies
import Derived.KernelRfl
namespace Go.Proofs.Qxb6604305a
/- THE CELL 'sum', in the pinned program and in every row, IS THE sha256 OF THE DUMP (.gsa) THAT Qxb6604305aProg.lean LOADS. Nothing in Lean hashes anything: it is a label: what it is worth is what the hold of that sum in a sandbox is worth. -/
noncomputable def Try.pinned : Pinned := { name := "qxb6604305a", sum := "33a7a56ae1cac61f4b3dd02be9e1115fa925f17dcc889a5fc903e60d23ecf6ba", checked := Try.checked }
namespace Rows
def none {H : Type} : Left H := { results := [], args := [] }

/-- 'zzlaws_internal_figure_b1.FnAppendUnitsMatchesPadAndPointModel': WHATEVER THE INPUT: true; the input reads as it did. -/
def fnAppendUnitsMatchesPadAndPointModelSpec : ChangeSpec := { name := "fnAppendUnitsMatchesPadAndPointModel", fn := fun _ => fun
  | [d1, d2, d3] => { results := [.lit (.bool true)], args := [d1, d2, d3] }
  | _ => none }
def fnAppendUnitsMatchesPadAndPointModelRow : OpenClaim := { program := "qxb6604305a", sum := "33a7a56ae1cac61f4b3dd02be9e1115fa925f17dcc889a5fc903e60d23ecf6ba", func := "example.com/tierfold/tierfold/zzlaws_internal_figure_b1.FnAppendUnitsMatchesPadAndPointModel", spec := "fnAppendUnitsMatchesPadAndPointModel", apart := false }
def FnAppendUnitsMatchesPadAndPointModelSaid : Prop := fnAppendUnitsMatchesPadAndPointModelRow.holds Try.pinned (OpenSpec.ofChange fnAppendUnitsMatchesPadAndPointModelSpec)

/-- ITS FALSE NEIGHBOUR: 'it returns false'. Refute it at one input. -/
def fnAppendUnitsMatchesPadAndPointModelWrong : ChangeSpec := { name := "fnAppendUnitsMatchesPadAndPointModel", fn := fun _ => fun
  | [d1, d2, d3] => { results := [.lit (.bool false)], args := [d1, d2, d3] }
  | _ => none }
def FnAppendUnitsMatchesPadAndPointModelWrongFalsely : Prop := fnAppendUnitsMatchesPadAndPointModelRow.holds Try.pinned (OpenSpec.ofChange fnAppendUnitsMatchesPadAndPointModelWrong)

/-- 'zzlaws_internal_figure_b1.FnAppendUnitsWritesPlainFigure': WHATEVER THE INPUT: true; the input reads as it did. -/
def fnAppendUnitsWritesPlainFigureSpec : ChangeSpec := { name := "fnAppendUnitsWritesPlainFigure", fn := fun _ => fun
  | [d1, d2] => { results := [.lit (.bool true)], args := [d1, d2] }
  | _ => none }
def fnAppendUnitsWritesPlainFigureRow : OpenClaim := { program := "qxb6604305a", sum := "33a7a56ae1cac61f4b3dd02be9e1115fa925f17dcc889a5fc903e60d23ecf6ba", func := "example.com/tierfold/tierfold/zzlaws_internal_figure_b1.FnAppendUnitsWritesPlainFigure", spec := "fnAppendUnitsWritesPlainFigure", apart := false }
def FnAppendUnitsWritesPlainFigureSaid : Prop := fnAppendUnitsWritesPlainFigureRow.holds Try.pinned (OpenSpec.ofChange fnAppendUnitsWritesPlainFigureSpec)

/-- ITS FALSE NEIGHBOUR: 'it returns false'. Refute it at one input. -/
def fnAppendUnitsWritesPlainFigureWrong : ChangeSpec := { name := "fnAppendUnitsWritesPlainFigure", fn := fun _ => fun
  | [d1, d2] => { results := [.lit (.bool false)], args := [d1, d2] }
  | _ => none }
def FnAppendUnitsWritesPlainFigureWrongFalsely : Prop := fnAppendUnitsWritesPlainFigureRow.holds Try.pinned (OpenSpec.ofChange fnAppendUnitsWritesPlainFigureWrong)

/-- 'zzlaws_internal_figure_b1.FnAppendUnitsReadsBackExactly': WHATEVER THE INPUT: true; the input reads as it did. -/
def fnAppendUnitsReadsBackExactlySpec : ChangeSpec := { name := "fnAppendUnitsReadsBackExactly", fn := fun _ => fun
  | [d1, d2] => { results := [.lit (.bool true)], args := [d1, d2] }
  | _ => none }
def fnAppendUnitsReadsBackExactlyRow : OpenClaim := { program := "qxb6604305a", sum := "33a7a56ae1cac61f4b3dd02be9e1115fa925f17dcc889a5fc903e60d23ecf6ba", func := "example.com/tierfold/tierfold/zzlaws_internal_figure_b1.FnAppendUnitsReadsBackExactly", spec := "fnAppendUnitsReadsBackExactly", apart := false }
def FnAppendUnitsReadsBackExactlySaid : Prop := fnAppendUnitsReadsBackExactlyRow.holds Try.pinned (OpenSpec.ofChange fnAppendUnitsReadsBackExactlySpec)

/-- ITS FALSE NEIGHBOUR: 'it returns false'. Refute it at one input. -/
def fnAppendUnitsReadsBackExactlyWrong : ChangeSpec := { name := "fnAppendUnitsReadsBackExactly", fn := fun _ => fun
  | [d1, d2] => { results := [.lit (.bool false)], args := [d1, d2] }
  | _ => none }
def FnAppendUnitsReadsBackExactlyWrongFalsely : Prop := fnAppendUnitsReadsBackExactlyRow.holds Try.pinned (OpenSpec.ofChange fnAppendUnitsReadsBackExactlyWrong)

/-- 'zzlaws_internal_figure_b1.FnIsPlainMatchesAutomaton': WHATEVER THE INPUT: true; the input reads as it did. -/
def fnIsPlainMatchesAutomatonSpec : ChangeSpec := { name := "fnIsPlainMatchesAutomaton", fn := fun _ => fun
  | [d] => { results := [.lit (.bool true)], args := [d] }
  | _ => none }
def fnIsPlainMatchesAutomatonRow : OpenClaim := { program := "qxb6604305a", sum := "33a7a56ae1cac61f4b3dd02be9e1115fa925f17dcc889a5fc903e60d23ecf6ba", func := "example.com/tierfold/tierfold/zzlaws_internal_figure_b1.FnIsPlainMatchesAutomaton", spec := "fnIsPlainMatchesAutomaton", apart := false }
def FnIsPlainMatchesAutomatonSaid : Prop := fnIsPlainMatchesAutomatonRow.holds Try.pinned (OpenSpec.ofChange fnIsPlainMatchesAutomatonSpec)

/-- ITS FALSE NEIGHBOUR: 'it returns false'. Refute it at one input. -/
def fnIsPlainMatchesAutomatonWrong : ChangeSpec := { name := "fnIsPlainMatchesAutomaton", fn := fun _ => fun
  | [d] => { results := [.lit (.bool false)], args := [d] }
  | _ => none }
def FnIsPlainMatchesAutomatonWrongFalsely : Prop := fnIsPlainMatchesAutomatonRow.holds Try.pinned (OpenSpec.ofChange fnIsPlainMatchesAutomatonWrong)

/-- 'zzlaws_internal_figure_b1.FnQuo64MatchesMagnitudeModel': WHATEVER THE INPUT: true; the input reads as it did. -/
def fnQuo64MatchesMagnitudeModelSpec : ChangeSpec := { name := "fnQuo64MatchesMagnitudeModel", fn := fun _ => fun
  | [d1, d2, d3] => { results := [.lit (.bool true)], args := [d1, d2, d3] }
  | _ => none }
def fnQuo64MatchesMagnitudeModelRow : OpenClaim := { program := "qxb6604305a", sum := "33a7a56ae1cac61f4b3dd02be9e1115fa925f17dcc889a5fc903e60d23ecf6ba", func := "example.com/tierfold/tierfold/zzlaws_internal_figure_b1.FnQuo64MatchesMagnitudeModel", spec := "fnQuo64MatchesMagnitudeModel", apart := false }
def FnQuo64MatchesMagnitudeModelSaid : Prop := fnQuo64MatchesMagnitudeModelRow.holds Try.pinned (OpenSpec.ofChange fnQuo64MatchesMagnitudeModelSpec)

/-- ITS FALSE NEIGHBOUR: 'it returns false'. Refute it at one input. -/
def fnQuo64MatchesMagnitudeModelWrong : ChangeSpec := { name := "fnQuo64MatchesMagnitudeModel", fn := fun _ => fun
  | [d1, d2, d3] => { results := [.lit (.bool false)], args := [d1, d2, d3] }
  | _ => none }
def FnQuo64MatchesMagnitudeModelWrongFalsely : Prop := fnQuo64MatchesMagnitudeModelRow.holds Try.pinned (OpenSpec.ofChange fnQuo64MatchesMagnitudeModelWrong)

end Rows
end Go.Proofs.Qxb6604305a
