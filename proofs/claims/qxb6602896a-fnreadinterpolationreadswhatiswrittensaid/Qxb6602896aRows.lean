/-
  No cell of these rows narrows 'for every input' (looked for: loops, veiled, ifaces, maps, wideKeys, modest, calm, conditions, laid).
  DERIVED. THE GIVEN ROWS OF THIS SEAT. 7 by the template 'for every input the law returns true; each argument reads behind the call as it read before'; 0 by the template 'total and deterministic' (their statements: Qxb6602896aTotals.lean).
  GIVEN WITH THE SEED: the statements are not yours to turn. If you find one false, say at which input.
  Laid BY PROGRAM, IN A SANDBOX (cutbox-rows.mjs): the forced cells as the released guide's own fill.sh prints them over the translation 9c3a65c9968218ba… (all of the seat's roots in one cut). By AI agents, Wed Nov 11 2026. No macro, syntax, notation, axiom, sorry.
-/
import Derived.Test.Qxb6602896aChecked
import GoSem.Claim
import GoSem.ClaimJoined
import GoSem.ClaimMapViews
import Derived.JoinedTies
import Derived.KernelRfl
namespace Go.Proofs.Qxb6602896a
/- THE CELL 'sum', in the pinned program and in every row, IS THE sha256 OF THE DUMP (.gsa) THAT Qxb6602896aProg.lean LOADS. Nothing in Lean hashes anything: it is a label: what it is worth is what the hold of that sum in a sandbox is worth. -/
noncomputable def Try.pinned : Pinned := { name := "qxb6602896a", sum := "9c3a65c9968218baaae15d13bed80d45ace781136060a03bbe51d88aa1744435", checked := Try.checked }
namespace Rows
def none {H : Type} : Left H := { results := [], args := [] }

/-- 'zzlaws_internal_hippotat_b1.FnReadInterpolationReadsNoFurther': WHATEVER THE INPUT: true; the input reads as it did. -/
def fnReadInterpolationReadsNoFurtherSpec : ChangeSpec := { name := "fnReadInterpolationReadsNoFurther", fn := fun _ => fun
  | [d1, d2] => { results := [.lit (.bool true)], args := [d1, d2] }
  | _ => none }
def fnReadInterpolationReadsNoFurtherRow : OpenClaim := { program := "qxb6602896a", sum := "9c3a65c9968218baaae15d13bed80d45ace781136060a03bbe51d88aa1744435", func := "example.com/tunlint/tunlint/zzlaws_internal_hippotat_b1.FnReadInterpolationReadsNoFurther", spec := "fnReadInterpolationReadsNoFurther", apart := false }
def FnReadInterpolationReadsNoFurtherSaid : Prop := fnReadInterpolationReadsNoFurtherRow.holds Try.pinned (OpenSpec.ofChange fnReadInterpolationReadsNoFurtherSpec)

/-- ITS FALSE NEIGHBOUR: 'it returns false'. Refute it at one input. -/
def fnReadInterpolationReadsNoFurtherWrong : ChangeSpec := { name := "fnReadInterpolationReadsNoFurther", fn := fun _ => fun
  | [d1, d2] => { results := [.lit (.bool false)], args := [d1, d2] }
  | _ => none }
def FnReadInterpolationReadsNoFurtherWrongFalsely : Prop := fnReadInterpolationReadsNoFurtherRow.holds Try.pinned (OpenSpec.ofChange fnReadInterpolationReadsNoFurtherWrong)

/-- 'zzlaws_internal_hippotat_b1.FnReadInterpolationReadsWhatIsWritten': WHATEVER THE INPUT: true; the input reads as it did. -/
def fnReadInterpolationReadsWhatIsWrittenSpec : ChangeSpec := { name := "fnReadInterpolationReadsWhatIsWritten", fn := fun _ => fun
  | [d1, d2, d3] => { results := [.lit (.bool true)], args := [d1, d2, d3] }
  | _ => none }
def fnReadInterpolationReadsWhatIsWrittenRow : OpenClaim := { program := "qxb6602896a", sum := "9c3a65c9968218baaae15d13bed80d45ace781136060a03bbe51d88aa1744435", func := "example.com/tunlint/tunlint/zzlaws_internal_hippotat_b1.FnReadInterpolationReadsWhatIsWritten", spec := "fnReadInterpolationReadsWhatIsWritten", apart := false }
def FnReadInterpolationReadsWhatIsWrittenSaid : Prop := fnReadInterpolationReadsWhatIsWrittenRow.holds Try.pinned (OpenSpec.ofChange fnReadInterpolationReadsWhatIsWrittenSpec)

/-- ITS FALSE NEIGHBOUR: 'it returns false'. Refute it at one input. -/
def fnReadInterpolationReadsWhatIsWrittenWrong : ChangeSpec := { name := "fnReadInterpolationReadsWhatIsWritten", fn := fun _ => fun
  | [d1, d2, d3] => { results := [.lit (.bool false)], args := [d1, d2, d3] }
  | _ => none }
def FnReadInterpolationReadsWhatIsWrittenWrongFalsely : Prop := fnReadInterpolationReadsWhatIsWrittenRow.holds Try.pinned (OpenSpec.ofChange fnReadInterpolationReadsWhatIsWrittenWrong)

/-- 'zzlaws_internal_hippotat_b1.FnIsAuthorityModel': WHATEVER THE INPUT: true; the input reads as it did. -/
def fnIsAuthorityModelSpec : ChangeSpec := { name := "fnIsAuthorityModel", fn := fun _ => fun
  | [d] => { results := [.lit (.bool true)], args := [d] }
  | _ => none }
def fnIsAuthorityModelRow : OpenClaim := { program := "qxb6602896a", sum := "9c3a65c9968218baaae15d13bed80d45ace781136060a03bbe51d88aa1744435", func := "example.com/tunlint/tunlint/zzlaws_internal_hippotat_b1.FnIsAuthorityModel", spec := "fnIsAuthorityModel", inPlace := ["internal/bytealg.IndexByteString"], apart := false }
def FnIsAuthorityModelSaid : Prop := fnIsAuthorityModelRow.holds Try.pinned (OpenSpec.ofChange fnIsAuthorityModelSpec)

/-- ITS FALSE NEIGHBOUR: 'it returns false'. Refute it at one input. -/
def fnIsAuthorityModelWrong : ChangeSpec := { name := "fnIsAuthorityModel", fn := fun _ => fun
  | [d] => { results := [.lit (.bool false)], args := [d] }
  | _ => none }
def FnIsAuthorityModelWrongFalsely : Prop := fnIsAuthorityModelRow.holds Try.pinned (OpenSpec.ofChange fnIsAuthorityModelWrong)

/-- 'zzlaws_internal_hippotat_b1.FnIsAuthorityUserinfoNotJudged': WHATEVER THE INPUT: true; the input reads as it did. -/
def fnIsAuthorityUserinfoNotJudgedSpec : ChangeSpec := { name := "fnIsAuthorityUserinfoNotJudged", fn := fun _ => fun
  | [d1, d2] => { results := [.lit (.bool true)], args := [d1, d2] }
  | _ => none }
def fnIsAuthorityUserinfoNotJudgedRow : OpenClaim := { program := "qxb6602896a", sum := "9c3a65c9968218baaae15d13bed80d45ace781136060a03bbe51d88aa1744435", func := "example.com/tunlint/tunlint/zzlaws_internal_hippotat_b1.FnIsAuthorityUserinfoNotJudged", spec := "fnIsAuthorityUserinfoNotJudged", inPlace := ["internal/bytealg.IndexByteString"], apart := false }
def FnIsAuthorityUserinfoNotJudgedSaid : Prop := fnIsAuthorityUserinfoNotJudgedRow.holds Try.pinned (OpenSpec.ofChange fnIsAuthorityUserinfoNotJudgedSpec)

/-- ITS FALSE NEIGHBOUR: 'it returns false'. Refute it at one input. -/
def fnIsAuthorityUserinfoNotJudgedWrong : ChangeSpec := { name := "fnIsAuthorityUserinfoNotJudged", fn := fun _ => fun
  | [d1, d2] => { results := [.lit (.bool false)], args := [d1, d2] }
  | _ => none }
def FnIsAuthorityUserinfoNotJudgedWrongFalsely : Prop := fnIsAuthorityUserinfoNotJudgedRow.holds Try.pinned (OpenSpec.ofChange fnIsAuthorityUserinfoNotJudgedWrong)

/-- 'zzlaws_internal_hippotat_b1.FnIsURLModel': WHATEVER THE INPUT: true; the input reads as it did. -/
def fnIsURLModelSpec : ChangeSpec := { name := "fnIsURLModel", fn := fun _ => fun
  | [d] => { results := [.lit (.bool true)], args := [d] }
  | _ => none }
def fnIsURLModelRow : OpenClaim := { program := "qxb6602896a", sum := "9c3a65c9968218baaae15d13bed80d45ace781136060a03bbe51d88aa1744435", func := "example.com/tunlint/tunlint/zzlaws_internal_hippotat_b1.FnIsURLModel", spec := "fnIsURLModel", inPlace := ["internal/bytealg.IndexByteString", "internal/bytealg.IndexString"], named := ["internal/bytealg.MaxLen"], apart := false }
def FnIsURLModelSaid : Prop := fnIsURLModelRow.holds Try.pinned (OpenSpec.ofChange fnIsURLModelSpec)

/-- ITS FALSE NEIGHBOUR: 'it returns false'. Refute it at one input. -/
def fnIsURLModelWrong : ChangeSpec := { name := "fnIsURLModel", fn := fun _ => fun
  | [d] => { results := [.lit (.bool false)], args := [d] }
  | _ => none }
def FnIsURLModelWrongFalsely : Prop := fnIsURLModelRow.holds Try.pinned (OpenSpec.ofChange fnIsURLModelWrong)

/-- 'zzlaws_internal_hippotat_b1.FnIsURLBareAuthority': WHATEVER THE INPUT: true; the input reads as it did. -/
def fnIsURLBareAuthoritySpec : ChangeSpec := { name := "fnIsURLBareAuthority", fn := fun _ => fun
  | [d] => { results := [.lit (.bool true)], args := [d] }
  | _ => none }
def fnIsURLBareAuthorityRow : OpenClaim := { program := "qxb6602896a", sum := "9c3a65c9968218baaae15d13bed80d45ace781136060a03bbe51d88aa1744435", func := "example.com/tunlint/tunlint/zzlaws_internal_hippotat_b1.FnIsURLBareAuthority", spec := "fnIsURLBareAuthority", inPlace := ["internal/bytealg.IndexByteString", "internal/bytealg.IndexString"], named := ["internal/bytealg.MaxLen"], apart := false }
def FnIsURLBareAuthoritySaid : Prop := fnIsURLBareAuthorityRow.holds Try.pinned (OpenSpec.ofChange fnIsURLBareAuthoritySpec)

/-- ITS FALSE NEIGHBOUR: 'it returns false'. Refute it at one input. -/
def fnIsURLBareAuthorityWrong : ChangeSpec := { name := "fnIsURLBareAuthority", fn := fun _ => fun
  | [d] => { results := [.lit (.bool false)], args := [d] }
  | _ => none }
def FnIsURLBareAuthorityWrongFalsely : Prop := fnIsURLBareAuthorityRow.holds Try.pinned (OpenSpec.ofChange fnIsURLBareAuthorityWrong)

/-- 'zzlaws_internal_hippotat_b1.FnIsURLIgnoresFragment': WHATEVER THE INPUT: true; the input reads as it did. -/
def fnIsURLIgnoresFragmentSpec : ChangeSpec := { name := "fnIsURLIgnoresFragment", fn := fun _ => fun
  | [d1, d2] => { results := [.lit (.bool true)], args := [d1, d2] }
  | _ => none }
def fnIsURLIgnoresFragmentRow : OpenClaim := { program := "qxb6602896a", sum := "9c3a65c9968218baaae15d13bed80d45ace781136060a03bbe51d88aa1744435", func := "example.com/tunlint/tunlint/zzlaws_internal_hippotat_b1.FnIsURLIgnoresFragment", spec := "fnIsURLIgnoresFragment", inPlace := ["internal/bytealg.IndexByteString", "internal/bytealg.IndexString"], named := ["internal/bytealg.MaxLen"], apart := false }
def FnIsURLIgnoresFragmentSaid : Prop := fnIsURLIgnoresFragmentRow.holds Try.pinned (OpenSpec.ofChange fnIsURLIgnoresFragmentSpec)

/-- ITS FALSE NEIGHBOUR: 'it returns false'. Refute it at one input. -/
def fnIsURLIgnoresFragmentWrong : ChangeSpec := { name := "fnIsURLIgnoresFragment", fn := fun _ => fun
  | [d1, d2] => { results := [.lit (.bool false)], args := [d1, d2] }
  | _ => none }
def FnIsURLIgnoresFragmentWrongFalsely : Prop := fnIsURLIgnoresFragmentRow.holds Try.pinned (OpenSpec.ofChange fnIsURLIgnoresFragmentWrong)

end Rows
end Go.Proofs.Qxb6602896a
