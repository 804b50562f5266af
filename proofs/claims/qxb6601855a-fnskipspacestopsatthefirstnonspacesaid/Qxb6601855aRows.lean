/-
  No cell of these rows narrows 'for every input' (looked for: loops, veiled, ifaces, maps, wideKeys, modest, calm, conditions, laid).
  DERIVED. THE GIVEN ROWS OF THIS SEAT. 3 by the template 'for every input the law returns true; each argument reads behind the call as it read before'; 0 by the template 'total and deterministic' (their statements: Qxb6601855aTotals.lean).
  GIVEN WITH THE SEED: the statements are not yours to turn. If you find one false, say at which input.
  Laid BY PROGRAM, IN A SANDBOX (cutbox-rows.mjs): the forced cells as the released guide's own fill.sh prints them over the translation f56917a582babbbb… (all of the seat's roots in one cut). By AI agents, Wed Nov 11 2026. No macro, syntax, notation, axiom, sorry.
-/
import Derived.Test.Qxb6601855aChecked
import GoSem.Claim
import GoSem.ClaimJoined
import GoSem.ClaimMapViews
import Derived.JoinedTies
import Derived.KernelRfl
namespace Go.Proofs.Qxb6601855a
/- THE CELL 'sum', in the pinned program and in every row, IS THE sha256 OF THE DUMP (.gsa) THAT Qxb6601855aProg.lean LOADS. Nothing in Lean hashes anything: it is a label: what it is worth is what the hold of that sum in a sandbox is worth. -/
noncomputable def Try.pinned : Pinned := { name := "qxb6601855a", sum := "f56917a582babbbbf769fc34d3e4e5a5d7285a404296f2971f7137e133772ea1", checked := Try.checked }
namespace Rows
def none {H : Type} : Left H := { results := [], args := [] }

/-- 'zzlaws_pkg_jsonfields_b1.FnSkipSpaceStopsAtTheFirstNonSpace': WHATEVER THE INPUT: true; the input reads as it did. -/
def fnSkipSpaceStopsAtTheFirstNonSpaceSpec : ChangeSpec := { name := "fnSkipSpaceStopsAtTheFirstNonSpace", fn := fun _ => fun
  | [d1, d2] => { results := [.lit (.bool true)], args := [d1, d2] }
  | _ => none }
def fnSkipSpaceStopsAtTheFirstNonSpaceRow : OpenClaim := { program := "qxb6601855a", sum := "f56917a582babbbbf769fc34d3e4e5a5d7285a404296f2971f7137e133772ea1", func := "example.com/pricelattice/pricelattice/zzlaws_pkg_jsonfields_b1.FnSkipSpaceStopsAtTheFirstNonSpace", spec := "fnSkipSpaceStopsAtTheFirstNonSpace", apart := false }
def FnSkipSpaceStopsAtTheFirstNonSpaceSaid : Prop := fnSkipSpaceStopsAtTheFirstNonSpaceRow.holds Try.pinned (OpenSpec.ofChange fnSkipSpaceStopsAtTheFirstNonSpaceSpec)

/-- ITS FALSE NEIGHBOUR: 'it returns false'. Refute it at one input. -/
def fnSkipSpaceStopsAtTheFirstNonSpaceWrong : ChangeSpec := { name := "fnSkipSpaceStopsAtTheFirstNonSpace", fn := fun _ => fun
  | [d1, d2] => { results := [.lit (.bool false)], args := [d1, d2] }
  | _ => none }
def FnSkipSpaceStopsAtTheFirstNonSpaceWrongFalsely : Prop := fnSkipSpaceStopsAtTheFirstNonSpaceRow.holds Try.pinned (OpenSpec.ofChange fnSkipSpaceStopsAtTheFirstNonSpaceWrong)

/-- 'zzlaws_pkg_jsonfields_b1.FnSkipSpaceLandsEveryStartInARunTogether': WHATEVER THE INPUT: true; the input reads as it did. -/
def fnSkipSpaceLandsEveryStartInARunTogetherSpec : ChangeSpec := { name := "fnSkipSpaceLandsEveryStartInARunTogether", fn := fun _ => fun
  | [d1, d2, d3] => { results := [.lit (.bool true)], args := [d1, d2, d3] }
  | _ => none }
def fnSkipSpaceLandsEveryStartInARunTogetherRow : OpenClaim := { program := "qxb6601855a", sum := "f56917a582babbbbf769fc34d3e4e5a5d7285a404296f2971f7137e133772ea1", func := "example.com/pricelattice/pricelattice/zzlaws_pkg_jsonfields_b1.FnSkipSpaceLandsEveryStartInARunTogether", spec := "fnSkipSpaceLandsEveryStartInARunTogether", apart := false }
def FnSkipSpaceLandsEveryStartInARunTogetherSaid : Prop := fnSkipSpaceLandsEveryStartInARunTogetherRow.holds Try.pinned (OpenSpec.ofChange fnSkipSpaceLandsEveryStartInARunTogetherSpec)

/-- ITS FALSE NEIGHBOUR: 'it returns false'. Refute it at one input. -/
def fnSkipSpaceLandsEveryStartInARunTogetherWrong : ChangeSpec := { name := "fnSkipSpaceLandsEveryStartInARunTogether", fn := fun _ => fun
  | [d1, d2, d3] => { results := [.lit (.bool false)], args := [d1, d2, d3] }
  | _ => none }
def FnSkipSpaceLandsEveryStartInARunTogetherWrongFalsely : Prop := fnSkipSpaceLandsEveryStartInARunTogetherRow.holds Try.pinned (OpenSpec.ofChange fnSkipSpaceLandsEveryStartInARunTogetherWrong)

/-- 'zzlaws_pkg_jsonfields_b1.FnKindOfReadsTheFirstByteAlone': WHATEVER THE INPUT: true; the input reads as it did. -/
def fnKindOfReadsTheFirstByteAloneSpec : ChangeSpec := { name := "fnKindOfReadsTheFirstByteAlone", fn := fun _ => fun
  | [d] => { results := [.lit (.bool true)], args := [d] }
  | _ => none }
def fnKindOfReadsTheFirstByteAloneRow : OpenClaim := { program := "qxb6601855a", sum := "f56917a582babbbbf769fc34d3e4e5a5d7285a404296f2971f7137e133772ea1", func := "example.com/pricelattice/pricelattice/zzlaws_pkg_jsonfields_b1.FnKindOfReadsTheFirstByteAlone", spec := "fnKindOfReadsTheFirstByteAlone", apart := false }
def FnKindOfReadsTheFirstByteAloneSaid : Prop := fnKindOfReadsTheFirstByteAloneRow.holds Try.pinned (OpenSpec.ofChange fnKindOfReadsTheFirstByteAloneSpec)

/-- ITS FALSE NEIGHBOUR: 'it returns false'. Refute it at one input. -/
def fnKindOfReadsTheFirstByteAloneWrong : ChangeSpec := { name := "fnKindOfReadsTheFirstByteAlone", fn := fun _ => fun
  | [d] => { results := [.lit (.bool false)], args := [d] }
  | _ => none }
def FnKindOfReadsTheFirstByteAloneWrongFalsely : Prop := fnKindOfReadsTheFirstByteAloneRow.holds Try.pinned (OpenSpec.ofChange fnKindOfReadsTheFirstByteAloneWrong)

end Rows
end Go.Proofs.Qxb6601855a
