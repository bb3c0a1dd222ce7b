/-
  No cell of these rows narrows 'for every input' (looked for: loops, veiled, ifaces, maps, wideKeys, modest, calm, conditions, laid).
  DERIVED. THE GIVEN ROWS OF THIS SEAT. 7 by the template 'for every input the law returns true; each argument reads behind the call as it read before'; 0 by the template 'total and deterministic' (their statements: Qxb6602229aTotals.lean).
  GIVEN WITH THE SEED: the statements are not yours to turn. If you find one false, say at which input.
  Laid BY PROGRAM, IN A SANDBOX (cutbox-rows.mjs): the forced cells as the released guide's own fill.sh prints them over the translation 9ea36e0b98588332… (all of the seat's roots in one cut). By AI agents, Wed Nov 11 2026. No macro, syntax, notation, axiom, sorry.
-/
import Derived.Test.Qxb6602229aChecked
import GoSem.Claim
import GoSem.ClaimJoined
import GoSem.ClaimMapViews
import Derived.JoinedTies
import Derived.KernelRfl
namespace Go.Proofs.Qxb6602229a
/- THE CELL 'sum', in the pinned program and in every row, IS THE sha256 OF THE DUMP (.gsa) THAT Qxb6602229aProg.lean LOADS. Nothing in Lean hashes anything: it is a label: what it is worth is what the hold of that sum in a sandbox is worth. -/
noncomputable def Try.pinned : Pinned := { name := "qxb6602229a", sum := "9ea36e0b98588332eb6d680aa8c4f21f90e420d38f325ef5fe1b1689c35e4122", checked := Try.checked }
namespace Rows
def none {H : Type} : Left H := { results := [], args := [] }

/-- 'zzlaws_root_b1.FnCmpMatchesSubtraction': WHATEVER THE INPUT: true; the input reads as it did. -/
def fnCmpMatchesSubtractionSpec : ChangeSpec := { name := "fnCmpMatchesSubtraction", fn := fun _ => fun
  | [d1, d2, d3, d4, d5, d6] => { results := [.lit (.bool true)], args := [d1, d2, d3, d4, d5, d6] }
  | _ => none }
def fnCmpMatchesSubtractionRow : OpenClaim := { program := "qxb6602229a", sum := "9ea36e0b98588332eb6d680aa8c4f21f90e420d38f325ef5fe1b1689c35e4122", func := "example.com/ringloom/ringloom/zzlaws_root_b1.FnCmpMatchesSubtraction", spec := "fnCmpMatchesSubtraction", apart := false }
def FnCmpMatchesSubtractionSaid : Prop := fnCmpMatchesSubtractionRow.holds Try.pinned (OpenSpec.ofChange fnCmpMatchesSubtractionSpec)

/-- ITS FALSE NEIGHBOUR: 'it returns false'. Refute it at one input. -/
def fnCmpMatchesSubtractionWrong : ChangeSpec := { name := "fnCmpMatchesSubtraction", fn := fun _ => fun
  | [d1, d2, d3, d4, d5, d6] => { results := [.lit (.bool false)], args := [d1, d2, d3, d4, d5, d6] }
  | _ => none }
def FnCmpMatchesSubtractionWrongFalsely : Prop := fnCmpMatchesSubtractionRow.holds Try.pinned (OpenSpec.ofChange fnCmpMatchesSubtractionWrong)

/-- 'zzlaws_root_b1.FnCmpIsTotalOrder': WHATEVER THE INPUT: true; the input reads as it did. -/
def fnCmpIsTotalOrderSpec : ChangeSpec := { name := "fnCmpIsTotalOrder", fn := fun _ => fun
  | [d1, d2, d3, d4, d5, d6, d7, d8, d9] => { results := [.lit (.bool true)], args := [d1, d2, d3, d4, d5, d6, d7, d8, d9] }
  | _ => none }
def fnCmpIsTotalOrderRow : OpenClaim := { program := "qxb6602229a", sum := "9ea36e0b98588332eb6d680aa8c4f21f90e420d38f325ef5fe1b1689c35e4122", func := "example.com/ringloom/ringloom/zzlaws_root_b1.FnCmpIsTotalOrder", spec := "fnCmpIsTotalOrder", apart := false }
def FnCmpIsTotalOrderSaid : Prop := fnCmpIsTotalOrderRow.holds Try.pinned (OpenSpec.ofChange fnCmpIsTotalOrderSpec)

/-- ITS FALSE NEIGHBOUR: 'it returns false'. Refute it at one input. -/
def fnCmpIsTotalOrderWrong : ChangeSpec := { name := "fnCmpIsTotalOrder", fn := fun _ => fun
  | [d1, d2, d3, d4, d5, d6, d7, d8, d9] => { results := [.lit (.bool false)], args := [d1, d2, d3, d4, d5, d6, d7, d8, d9] }
  | _ => none }
def FnCmpIsTotalOrderWrongFalsely : Prop := fnCmpIsTotalOrderRow.holds Try.pinned (OpenSpec.ofChange fnCmpIsTotalOrderWrong)

/-- 'zzlaws_root_b1.FnBytesMatchesShiftOut': WHATEVER THE INPUT: true; the input reads as it did. -/
def fnBytesMatchesShiftOutSpec : ChangeSpec := { name := "fnBytesMatchesShiftOut", fn := fun _ => fun
  | [d1, d2, d3] => { results := [.lit (.bool true)], args := [d1, d2, d3] }
  | _ => none }
def fnBytesMatchesShiftOutRow : OpenClaim := { program := "qxb6602229a", sum := "9ea36e0b98588332eb6d680aa8c4f21f90e420d38f325ef5fe1b1689c35e4122", func := "example.com/ringloom/ringloom/zzlaws_root_b1.FnBytesMatchesShiftOut", spec := "fnBytesMatchesShiftOut", apart := false }
def FnBytesMatchesShiftOutSaid : Prop := fnBytesMatchesShiftOutRow.holds Try.pinned (OpenSpec.ofChange fnBytesMatchesShiftOutSpec)

/-- ITS FALSE NEIGHBOUR: 'it returns false'. Refute it at one input. -/
def fnBytesMatchesShiftOutWrong : ChangeSpec := { name := "fnBytesMatchesShiftOut", fn := fun _ => fun
  | [d1, d2, d3] => { results := [.lit (.bool false)], args := [d1, d2, d3] }
  | _ => none }
def FnBytesMatchesShiftOutWrongFalsely : Prop := fnBytesMatchesShiftOutRow.holds Try.pinned (OpenSpec.ofChange fnBytesMatchesShiftOutWrong)

/-- 'zzlaws_root_b1.FnIDFromBytesMatchesHorner': WHATEVER THE INPUT: true; the input reads as it did. -/
def fnIDFromBytesMatchesHornerSpec : ChangeSpec := { name := "fnIDFromBytesMatchesHorner", fn := fun _ => fun
  | [d] => { results := [.lit (.bool true)], args := [d] }
  | _ => none }
def fnIDFromBytesMatchesHornerRow : OpenClaim := { program := "qxb6602229a", sum := "9ea36e0b98588332eb6d680aa8c4f21f90e420d38f325ef5fe1b1689c35e4122", func := "example.com/ringloom/ringloom/zzlaws_root_b1.FnIDFromBytesMatchesHorner", spec := "fnIDFromBytesMatchesHorner", apart := false }
def FnIDFromBytesMatchesHornerSaid : Prop := fnIDFromBytesMatchesHornerRow.holds Try.pinned (OpenSpec.ofChange fnIDFromBytesMatchesHornerSpec)

/-- ITS FALSE NEIGHBOUR: 'it returns false'. Refute it at one input. -/
def fnIDFromBytesMatchesHornerWrong : ChangeSpec := { name := "fnIDFromBytesMatchesHorner", fn := fun _ => fun
  | [d] => { results := [.lit (.bool false)], args := [d] }
  | _ => none }
def FnIDFromBytesMatchesHornerWrongFalsely : Prop := fnIDFromBytesMatchesHornerRow.holds Try.pinned (OpenSpec.ofChange fnIDFromBytesMatchesHornerWrong)

/-- 'zzlaws_root_b1.FnBytesRoundTrip': WHATEVER THE INPUT: true; the input reads as it did. -/
def fnBytesRoundTripSpec : ChangeSpec := { name := "fnBytesRoundTrip", fn := fun _ => fun
  | [d1, d2, d3] => { results := [.lit (.bool true)], args := [d1, d2, d3] }
  | _ => none }
def fnBytesRoundTripRow : OpenClaim := { program := "qxb6602229a", sum := "9ea36e0b98588332eb6d680aa8c4f21f90e420d38f325ef5fe1b1689c35e4122", func := "example.com/ringloom/ringloom/zzlaws_root_b1.FnBytesRoundTrip", spec := "fnBytesRoundTrip", apart := false }
def FnBytesRoundTripSaid : Prop := fnBytesRoundTripRow.holds Try.pinned (OpenSpec.ofChange fnBytesRoundTripSpec)

/-- ITS FALSE NEIGHBOUR: 'it returns false'. Refute it at one input. -/
def fnBytesRoundTripWrong : ChangeSpec := { name := "fnBytesRoundTrip", fn := fun _ => fun
  | [d1, d2, d3] => { results := [.lit (.bool false)], args := [d1, d2, d3] }
  | _ => none }
def FnBytesRoundTripWrongFalsely : Prop := fnBytesRoundTripRow.holds Try.pinned (OpenSpec.ofChange fnBytesRoundTripWrong)

/-- 'zzlaws_root_b1.FnIDFromBytesRoundTrip': WHATEVER THE INPUT: true; the input reads as it did. -/
def fnIDFromBytesRoundTripSpec : ChangeSpec := { name := "fnIDFromBytesRoundTrip", fn := fun _ => fun
  | [d] => { results := [.lit (.bool true)], args := [d] }
  | _ => none }
def fnIDFromBytesRoundTripRow : OpenClaim := { program := "qxb6602229a", sum := "9ea36e0b98588332eb6d680aa8c4f21f90e420d38f325ef5fe1b1689c35e4122", func := "example.com/ringloom/ringloom/zzlaws_root_b1.FnIDFromBytesRoundTrip", spec := "fnIDFromBytesRoundTrip", apart := false }
def FnIDFromBytesRoundTripSaid : Prop := fnIDFromBytesRoundTripRow.holds Try.pinned (OpenSpec.ofChange fnIDFromBytesRoundTripSpec)

/-- ITS FALSE NEIGHBOUR: 'it returns false'. Refute it at one input. -/
def fnIDFromBytesRoundTripWrong : ChangeSpec := { name := "fnIDFromBytesRoundTrip", fn := fun _ => fun
  | [d] => { results := [.lit (.bool false)], args := [d] }
  | _ => none }
def FnIDFromBytesRoundTripWrongFalsely : Prop := fnIDFromBytesRoundTripRow.holds Try.pinned (OpenSpec.ofChange fnIDFromBytesRoundTripWrong)

/-- 'zzlaws_root_b1.FnBytesOrderMatchesCmp': WHATEVER THE INPUT: true; the input reads as it did. -/
def fnBytesOrderMatchesCmpSpec : ChangeSpec := { name := "fnBytesOrderMatchesCmp", fn := fun _ => fun
  | [d1, d2, d3, d4, d5, d6] => { results := [.lit (.bool true)], args := [d1, d2, d3, d4, d5, d6] }
  | _ => none }
def fnBytesOrderMatchesCmpRow : OpenClaim := { program := "qxb6602229a", sum := "9ea36e0b98588332eb6d680aa8c4f21f90e420d38f325ef5fe1b1689c35e4122", func := "example.com/ringloom/ringloom/zzlaws_root_b1.FnBytesOrderMatchesCmp", spec := "fnBytesOrderMatchesCmp", apart := false }
def FnBytesOrderMatchesCmpSaid : Prop := fnBytesOrderMatchesCmpRow.holds Try.pinned (OpenSpec.ofChange fnBytesOrderMatchesCmpSpec)

/-- ITS FALSE NEIGHBOUR: 'it returns false'. Refute it at one input. -/
def fnBytesOrderMatchesCmpWrong : ChangeSpec := { name := "fnBytesOrderMatchesCmp", fn := fun _ => fun
  | [d1, d2, d3, d4, d5, d6] => { results := [.lit (.bool false)], args := [d1, d2, d3, d4, d5, d6] }
  | _ => none }
def FnBytesOrderMatchesCmpWrongFalsely : Prop := fnBytesOrderMatchesCmpRow.holds Try.pinned (OpenSpec.ofChange fnBytesOrderMatchesCmpWrong)

end Rows
end Go.Proofs.Qxb6602229a
