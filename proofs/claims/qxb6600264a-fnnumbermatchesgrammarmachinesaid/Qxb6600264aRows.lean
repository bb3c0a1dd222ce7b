/-
  No cell of these rows narrows 'for every input' (looked for: loops, veiled, ifaces, maps, wideKeys, modest, calm, conditions, laid).
  DERIVED. THE GIVEN ROWS OF THIS SEAT. 3 by the template 'for every input the law returns true; each argument reads behind the call as it read before'; 0 by the template 'total and deterministic' (their statements: Qxb6600264aTotals.lean).
  GIVEN WITH THE SEED: the statements are not yours to turn. If you find one false, say at which input.
  Laid BY PROGRAM, IN A SANDBOX (cutbox-rows.mjs): the forced cells as the released guide's own fill.sh prints them over the translation 2d2755ce7c4fae19… (all of the seat's roots in one cut). By AI agents, Wed Nov 11 2026. No macro, syntax, notation, axiom, sorry.
-/
import Derived.Test.Qxb6600264aChecked
import GoSem.Claim
import GoSem.ClaimJoined
import GoSem.ClaimMapViews
import Derived.JoinedTies
import Derived.KernelRfl
namespace Go.Proofs.Qxb6600264a
/- THE CELL 'sum', in the pinned program and in every row, IS THE sha256 OF THE DUMP (.gsa) THAT Qxb6600264aProg.lean LOADS. Nothing in Lean hashes anything: it is a label: what it is worth is what the hold of that sum in a sandbox is worth. -/
noncomputable def Try.pinned : Pinned := { name := "qxb6600264a", sum := "2d2755ce7c4fae1973502b58f4d3618965f774bc0ddfcbc69ff94b89cde1dd3a", checked := Try.checked }
namespace Rows
def none {H : Type} : Left H := { results := [], args := [] }

/-- 'zzlaws_internal_fields_b1.FnNumberMatchesGrammarMachine': WHATEVER THE INPUT: true; the input reads as it did. -/
def fnNumberMatchesGrammarMachineSpec : ChangeSpec := { name := "fnNumberMatchesGrammarMachine", fn := fun _ => fun
  | [d1, d2] => { results := [.lit (.bool true)], args := [d1, d2] }
  | _ => none }
def fnNumberMatchesGrammarMachineRow : OpenClaim := { program := "qxb6600264a", sum := "2d2755ce7c4fae1973502b58f4d3618965f774bc0ddfcbc69ff94b89cde1dd3a", func := "example.com/watchkeep/watchkeep/zzlaws_internal_fields_b1.FnNumberMatchesGrammarMachine", spec := "fnNumberMatchesGrammarMachine", apart := false }
def FnNumberMatchesGrammarMachineSaid : Prop := fnNumberMatchesGrammarMachineRow.holds Try.pinned (OpenSpec.ofChange fnNumberMatchesGrammarMachineSpec)

/-- ITS FALSE NEIGHBOUR: 'it returns false'. Refute it at one input. -/
def fnNumberMatchesGrammarMachineWrong : ChangeSpec := { name := "fnNumberMatchesGrammarMachine", fn := fun _ => fun
  | [d1, d2] => { results := [.lit (.bool false)], args := [d1, d2] }
  | _ => none }
def FnNumberMatchesGrammarMachineWrongFalsely : Prop := fnNumberMatchesGrammarMachineRow.holds Try.pinned (OpenSpec.ofChange fnNumberMatchesGrammarMachineWrong)

/-- 'zzlaws_internal_fields_b1.FnNumberTokenStandsAlone': WHATEVER THE INPUT: true; the input reads as it did. -/
def fnNumberTokenStandsAloneSpec : ChangeSpec := { name := "fnNumberTokenStandsAlone", fn := fun _ => fun
  | [d1, d2] => { results := [.lit (.bool true)], args := [d1, d2] }
  | _ => none }
def fnNumberTokenStandsAloneRow : OpenClaim := { program := "qxb6600264a", sum := "2d2755ce7c4fae1973502b58f4d3618965f774bc0ddfcbc69ff94b89cde1dd3a", func := "example.com/watchkeep/watchkeep/zzlaws_internal_fields_b1.FnNumberTokenStandsAlone", spec := "fnNumberTokenStandsAlone", apart := false }
def FnNumberTokenStandsAloneSaid : Prop := fnNumberTokenStandsAloneRow.holds Try.pinned (OpenSpec.ofChange fnNumberTokenStandsAloneSpec)

/-- ITS FALSE NEIGHBOUR: 'it returns false'. Refute it at one input. -/
def fnNumberTokenStandsAloneWrong : ChangeSpec := { name := "fnNumberTokenStandsAlone", fn := fun _ => fun
  | [d1, d2] => { results := [.lit (.bool false)], args := [d1, d2] }
  | _ => none }
def FnNumberTokenStandsAloneWrongFalsely : Prop := fnNumberTokenStandsAloneRow.holds Try.pinned (OpenSpec.ofChange fnNumberTokenStandsAloneWrong)

/-- 'zzlaws_internal_fields_b1.FnEscapeReadsOnlyItsWindow': WHATEVER THE INPUT: true; the input reads as it did. -/
def fnEscapeReadsOnlyItsWindowSpec : ChangeSpec := { name := "fnEscapeReadsOnlyItsWindow", fn := fun _ => fun
  | [d1, d2] => { results := [.lit (.bool true)], args := [d1, d2] }
  | _ => none }
def fnEscapeReadsOnlyItsWindowRow : OpenClaim := { program := "qxb6600264a", sum := "2d2755ce7c4fae1973502b58f4d3618965f774bc0ddfcbc69ff94b89cde1dd3a", func := "example.com/watchkeep/watchkeep/zzlaws_internal_fields_b1.FnEscapeReadsOnlyItsWindow", spec := "fnEscapeReadsOnlyItsWindow", apart := false }
def FnEscapeReadsOnlyItsWindowSaid : Prop := fnEscapeReadsOnlyItsWindowRow.holds Try.pinned (OpenSpec.ofChange fnEscapeReadsOnlyItsWindowSpec)

/-- ITS FALSE NEIGHBOUR: 'it returns false'. Refute it at one input. -/
def fnEscapeReadsOnlyItsWindowWrong : ChangeSpec := { name := "fnEscapeReadsOnlyItsWindow", fn := fun _ => fun
  | [d1, d2] => { results := [.lit (.bool false)], args := [d1, d2] }
  | _ => none }
def FnEscapeReadsOnlyItsWindowWrongFalsely : Prop := fnEscapeReadsOnlyItsWindowRow.holds Try.pinned (OpenSpec.ofChange fnEscapeReadsOnlyItsWindowWrong)

end Rows
end Go.Proofs.Qxb6600264a
