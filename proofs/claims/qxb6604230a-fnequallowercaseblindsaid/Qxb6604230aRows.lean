/-
  No cell of these rows narrows 'for every input' (looked for: loops, veiled, ifaces, maps, wideKeys, modest, calm, conditions, laid).
  DERIVED. THE GIVEN ROWS OF THIS SEAT. 7 by the template 'for every input the law returns true; each argument reads behind the call as it read before'; 0 by the template 'total and deterministic' (their statements: Qxb6604230aTotals.lean).
  GIVEN WITH THE SEED: the statements are not yours to turn. If you find one false, say at which input.
  Laid BY PROGRAM, IN A SANDBOX (cutbox-rows.mjs): the forced cells as the released guide's own fill.sh prints them over the translation 1fdfd93016608560… (all of the seat's roots in one cut). By AI agents, Wed Nov 11 2026. No macro, syntax, notation, axiom, sorry.
-/
import Derived.Test.Qxb6604230aChecked
import GoSem.Claim
import GoSem.ClaimJoined
import GoSem.ClaimMapViews
import Derived.JoinedTies
import Derived.KernelRfl
namespace Go.Proofs.Qxb6604230a
/- THE CELL 'sum', in the pinned program and in every row, IS THE sha256 OF THE DUMP (.gsa) THAT Qxb6604230aProg.lean LOADS. Nothing in Lean hashes anything: it is a label: what it is worth is what the hold of that sum in a sandbox is worth. -/
noncomputable def Try.pinned : Pinned := { name := "qxb6604230a", sum := "1fdfd93016608560ba1449a5d084a960f85a41dbc5d5ebf2b8ee14a3bffec10b", checked := Try.checked }
namespace Rows
def none {H : Type} : Left H := { results := [], args := [] }

/-- 'zzlaws_root_b1.FnReadNumberSpec': WHATEVER THE INPUT: true; the input reads as it did. -/
def fnReadNumberSpecSpec : ChangeSpec := { name := "fnReadNumberSpec", fn := fun _ => fun
  | [d1, d2] => { results := [.lit (.bool true)], args := [d1, d2] }
  | _ => none }
def fnReadNumberSpecRow : OpenClaim := { program := "qxb6604230a", sum := "1fdfd93016608560ba1449a5d084a960f85a41dbc5d5ebf2b8ee14a3bffec10b", func := "signetway.example/signetway/zzlaws_root_b1.FnReadNumberSpec", spec := "fnReadNumberSpec", apart := false }
def FnReadNumberSpecSaid : Prop := fnReadNumberSpecRow.holds Try.pinned (OpenSpec.ofChange fnReadNumberSpecSpec)

/-- ITS FALSE NEIGHBOUR: 'it returns false'. Refute it at one input. -/
def fnReadNumberSpecWrong : ChangeSpec := { name := "fnReadNumberSpec", fn := fun _ => fun
  | [d1, d2] => { results := [.lit (.bool false)], args := [d1, d2] }
  | _ => none }
def FnReadNumberSpecWrongFalsely : Prop := fnReadNumberSpecRow.holds Try.pinned (OpenSpec.ofChange fnReadNumberSpecWrong)

/-- 'zzlaws_root_b1.FnReadNumberShift': WHATEVER THE INPUT: true; the input reads as it did. -/
def fnReadNumberShiftSpec : ChangeSpec := { name := "fnReadNumberShift", fn := fun _ => fun
  | [d1, d2, d3] => { results := [.lit (.bool true)], args := [d1, d2, d3] }
  | _ => none }
def fnReadNumberShiftRow : OpenClaim := { program := "qxb6604230a", sum := "1fdfd93016608560ba1449a5d084a960f85a41dbc5d5ebf2b8ee14a3bffec10b", func := "signetway.example/signetway/zzlaws_root_b1.FnReadNumberShift", spec := "fnReadNumberShift", apart := false }
def FnReadNumberShiftSaid : Prop := fnReadNumberShiftRow.holds Try.pinned (OpenSpec.ofChange fnReadNumberShiftSpec)

/-- ITS FALSE NEIGHBOUR: 'it returns false'. Refute it at one input. -/
def fnReadNumberShiftWrong : ChangeSpec := { name := "fnReadNumberShift", fn := fun _ => fun
  | [d1, d2, d3] => { results := [.lit (.bool false)], args := [d1, d2, d3] }
  | _ => none }
def FnReadNumberShiftWrongFalsely : Prop := fnReadNumberShiftRow.holds Try.pinned (OpenSpec.ofChange fnReadNumberShiftWrong)

/-- 'zzlaws_root_b1.FnReadNumberPrefixDetermined': WHATEVER THE INPUT: true; the input reads as it did. -/
def fnReadNumberPrefixDeterminedSpec : ChangeSpec := { name := "fnReadNumberPrefixDetermined", fn := fun _ => fun
  | [d1, d2] => { results := [.lit (.bool true)], args := [d1, d2] }
  | _ => none }
def fnReadNumberPrefixDeterminedRow : OpenClaim := { program := "qxb6604230a", sum := "1fdfd93016608560ba1449a5d084a960f85a41dbc5d5ebf2b8ee14a3bffec10b", func := "signetway.example/signetway/zzlaws_root_b1.FnReadNumberPrefixDetermined", spec := "fnReadNumberPrefixDetermined", apart := false }
def FnReadNumberPrefixDeterminedSaid : Prop := fnReadNumberPrefixDeterminedRow.holds Try.pinned (OpenSpec.ofChange fnReadNumberPrefixDeterminedSpec)

/-- ITS FALSE NEIGHBOUR: 'it returns false'. Refute it at one input. -/
def fnReadNumberPrefixDeterminedWrong : ChangeSpec := { name := "fnReadNumberPrefixDetermined", fn := fun _ => fun
  | [d1, d2] => { results := [.lit (.bool false)], args := [d1, d2] }
  | _ => none }
def FnReadNumberPrefixDeterminedWrongFalsely : Prop := fnReadNumberPrefixDeterminedRow.holds Try.pinned (OpenSpec.ofChange fnReadNumberPrefixDeterminedWrong)

/-- 'zzlaws_root_b1.FnEqualLowerCaseBlind': WHATEVER THE INPUT: true; the input reads as it did. -/
def fnEqualLowerCaseBlindSpec : ChangeSpec := { name := "fnEqualLowerCaseBlind", fn := fun _ => fun
  | [d1, d2] => { results := [.lit (.bool true)], args := [d1, d2] }
  | _ => none }
def fnEqualLowerCaseBlindRow : OpenClaim := { program := "qxb6604230a", sum := "1fdfd93016608560ba1449a5d084a960f85a41dbc5d5ebf2b8ee14a3bffec10b", func := "signetway.example/signetway/zzlaws_root_b1.FnEqualLowerCaseBlind", spec := "fnEqualLowerCaseBlind", apart := false }
def FnEqualLowerCaseBlindSaid : Prop := fnEqualLowerCaseBlindRow.holds Try.pinned (OpenSpec.ofChange fnEqualLowerCaseBlindSpec)

/-- ITS FALSE NEIGHBOUR: 'it returns false'. Refute it at one input. -/
def fnEqualLowerCaseBlindWrong : ChangeSpec := { name := "fnEqualLowerCaseBlind", fn := fun _ => fun
  | [d1, d2] => { results := [.lit (.bool false)], args := [d1, d2] }
  | _ => none }
def FnEqualLowerCaseBlindWrongFalsely : Prop := fnEqualLowerCaseBlindRow.holds Try.pinned (OpenSpec.ofChange fnEqualLowerCaseBlindWrong)

/-- 'zzlaws_root_b1.FnSmallIntegerSpec': WHATEVER THE INPUT: true; the input reads as it did. -/
def fnSmallIntegerSpecSpec : ChangeSpec := { name := "fnSmallIntegerSpec", fn := fun _ => fun
  | [d] => { results := [.lit (.bool true)], args := [d] }
  | _ => none }
def fnSmallIntegerSpecRow : OpenClaim := { program := "qxb6604230a", sum := "1fdfd93016608560ba1449a5d084a960f85a41dbc5d5ebf2b8ee14a3bffec10b", func := "signetway.example/signetway/zzlaws_root_b1.FnSmallIntegerSpec", spec := "fnSmallIntegerSpec", apart := false }
def FnSmallIntegerSpecSaid : Prop := fnSmallIntegerSpecRow.holds Try.pinned (OpenSpec.ofChange fnSmallIntegerSpecSpec)

/-- ITS FALSE NEIGHBOUR: 'it returns false'. Refute it at one input. -/
def fnSmallIntegerSpecWrong : ChangeSpec := { name := "fnSmallIntegerSpec", fn := fun _ => fun
  | [d] => { results := [.lit (.bool false)], args := [d] }
  | _ => none }
def FnSmallIntegerSpecWrongFalsely : Prop := fnSmallIntegerSpecRow.holds Try.pinned (OpenSpec.ofChange fnSmallIntegerSpecWrong)

/-- 'zzlaws_root_b1.FnSmallIntegerRoundTrip': WHATEVER THE INPUT: true; the input reads as it did. -/
def fnSmallIntegerRoundTripSpec : ChangeSpec := { name := "fnSmallIntegerRoundTrip", fn := fun _ => fun
  | [d1, d2] => { results := [.lit (.bool true)], args := [d1, d2] }
  | _ => none }
def fnSmallIntegerRoundTripRow : OpenClaim := { program := "qxb6604230a", sum := "1fdfd93016608560ba1449a5d084a960f85a41dbc5d5ebf2b8ee14a3bffec10b", func := "signetway.example/signetway/zzlaws_root_b1.FnSmallIntegerRoundTrip", spec := "fnSmallIntegerRoundTrip", apart := false }
def FnSmallIntegerRoundTripSaid : Prop := fnSmallIntegerRoundTripRow.holds Try.pinned (OpenSpec.ofChange fnSmallIntegerRoundTripSpec)

/-- ITS FALSE NEIGHBOUR: 'it returns false'. Refute it at one input. -/
def fnSmallIntegerRoundTripWrong : ChangeSpec := { name := "fnSmallIntegerRoundTrip", fn := fun _ => fun
  | [d1, d2] => { results := [.lit (.bool false)], args := [d1, d2] }
  | _ => none }
def FnSmallIntegerRoundTripWrongFalsely : Prop := fnSmallIntegerRoundTripRow.holds Try.pinned (OpenSpec.ofChange fnSmallIntegerRoundTripWrong)

/-- 'zzlaws_root_b1.FnSmallIntegerOrder': WHATEVER THE INPUT: true; the input reads as it did. -/
def fnSmallIntegerOrderSpec : ChangeSpec := { name := "fnSmallIntegerOrder", fn := fun _ => fun
  | [d1, d2] => { results := [.lit (.bool true)], args := [d1, d2] }
  | _ => none }
def fnSmallIntegerOrderRow : OpenClaim := { program := "qxb6604230a", sum := "1fdfd93016608560ba1449a5d084a960f85a41dbc5d5ebf2b8ee14a3bffec10b", func := "signetway.example/signetway/zzlaws_root_b1.FnSmallIntegerOrder", spec := "fnSmallIntegerOrder", apart := false }
def FnSmallIntegerOrderSaid : Prop := fnSmallIntegerOrderRow.holds Try.pinned (OpenSpec.ofChange fnSmallIntegerOrderSpec)

/-- ITS FALSE NEIGHBOUR: 'it returns false'. Refute it at one input. -/
def fnSmallIntegerOrderWrong : ChangeSpec := { name := "fnSmallIntegerOrder", fn := fun _ => fun
  | [d1, d2] => { results := [.lit (.bool false)], args := [d1, d2] }
  | _ => none }
def FnSmallIntegerOrderWrongFalsely : Prop := fnSmallIntegerOrderRow.holds Try.pinned (OpenSpec.ofChange fnSmallIntegerOrderWrong)

end Rows
end Go.Proofs.Qxb6604230a
