/-
  No cell of these rows narrows 'for every input' (looked for: loops, veiled, ifaces, maps, wideKeys, modest, calm, conditions, laid).
  DERIVED. THE GIVEN ROWS OF THIS SEAT. 6 by the template 'for every input the law returns true; each argument reads behind the call as it read before'; 0 by the template 'total and deterministic' (their statements: Qxb6601878aTotals.lean).
  GIVEN WITH THE SEED: the statements are not yours to turn. If you find one false, say at which input.
  Laid BY PROGRAM, IN A SANDBOX (cutbox-rows.mjs): the forced cells as the released guide's own fill.sh prints them over the translation 7563739325d565cc… (all of the seat's roots in one cut). By AI agents, Wed Nov 11 2026. No macro, syntax, notation, axiom, sorry.
-/
import Derived.Test.Qxb6601878aChecked
import GoSem.Claim
import GoSem.ClaimJoined
import GoSem.ClaimMapViews
import Derived.JoinedTies
import Derived.KernelRfl
namespace Go.Proofs.Qxb6601878a
/- THE CELL 'sum', in the pinned program and in every row, IS THE sha256 OF THE DUMP (.gsa) THAT Qxb6601878aProg.lean LOADS. Nothing in Lean hashes anything: it is a label: what it is worth is what the hold of that sum in a sandbox is worth. -/
noncomputable def Try.pinned : Pinned := { name := "qxb6601878a", sum := "7563739325d565cc1f946ccca46f116006b948ef71a18361c2e5450e48960ac7", checked := Try.checked }
namespace Rows
def none {H : Type} : Left H := { results := [], args := [] }

/-- 'zzlaws_dnsname_b1.FnCanonicalCaseBlindIdempotent': WHATEVER THE INPUT: true; the input reads as it did. -/
def fnCanonicalCaseBlindIdempotentSpec : ChangeSpec := { name := "fnCanonicalCaseBlindIdempotent", fn := fun _ => fun
  | [d] => { results := [.lit (.bool true)], args := [d] }
  | _ => none }
def fnCanonicalCaseBlindIdempotentRow : OpenClaim := { program := "qxb6601878a", sum := "7563739325d565cc1f946ccca46f116006b948ef71a18361c2e5450e48960ac7", func := "example.com/namestake/namestake/zzlaws_dnsname_b1.FnCanonicalCaseBlindIdempotent", spec := "fnCanonicalCaseBlindIdempotent", apart := false }
def FnCanonicalCaseBlindIdempotentSaid : Prop := fnCanonicalCaseBlindIdempotentRow.holds Try.pinned (OpenSpec.ofChange fnCanonicalCaseBlindIdempotentSpec)

/-- ITS FALSE NEIGHBOUR: 'it returns false'. Refute it at one input. -/
def fnCanonicalCaseBlindIdempotentWrong : ChangeSpec := { name := "fnCanonicalCaseBlindIdempotent", fn := fun _ => fun
  | [d] => { results := [.lit (.bool false)], args := [d] }
  | _ => none }
def FnCanonicalCaseBlindIdempotentWrongFalsely : Prop := fnCanonicalCaseBlindIdempotentRow.holds Try.pinned (OpenSpec.ofChange fnCanonicalCaseBlindIdempotentWrong)

/-- 'zzlaws_dnsname_b1.FnInMatchesSuffixModel': WHATEVER THE INPUT: true; the input reads as it did. -/
def fnInMatchesSuffixModelSpec : ChangeSpec := { name := "fnInMatchesSuffixModel", fn := fun _ => fun
  | [d1, d2] => { results := [.lit (.bool true)], args := [d1, d2] }
  | _ => none }
def fnInMatchesSuffixModelRow : OpenClaim := { program := "qxb6601878a", sum := "7563739325d565cc1f946ccca46f116006b948ef71a18361c2e5450e48960ac7", func := "example.com/namestake/namestake/zzlaws_dnsname_b1.FnInMatchesSuffixModel", spec := "fnInMatchesSuffixModel", apart := false }
def FnInMatchesSuffixModelSaid : Prop := fnInMatchesSuffixModelRow.holds Try.pinned (OpenSpec.ofChange fnInMatchesSuffixModelSpec)

/-- ITS FALSE NEIGHBOUR: 'it returns false'. Refute it at one input. -/
def fnInMatchesSuffixModelWrong : ChangeSpec := { name := "fnInMatchesSuffixModel", fn := fun _ => fun
  | [d1, d2] => { results := [.lit (.bool false)], args := [d1, d2] }
  | _ => none }
def FnInMatchesSuffixModelWrongFalsely : Prop := fnInMatchesSuffixModelRow.holds Try.pinned (OpenSpec.ofChange fnInMatchesSuffixModelWrong)

/-- 'zzlaws_dnsname_b1.FnInReflexiveRootCaseBlind': WHATEVER THE INPUT: true; the input reads as it did. -/
def fnInReflexiveRootCaseBlindSpec : ChangeSpec := { name := "fnInReflexiveRootCaseBlind", fn := fun _ => fun
  | [d1, d2] => { results := [.lit (.bool true)], args := [d1, d2] }
  | _ => none }
def fnInReflexiveRootCaseBlindRow : OpenClaim := { program := "qxb6601878a", sum := "7563739325d565cc1f946ccca46f116006b948ef71a18361c2e5450e48960ac7", func := "example.com/namestake/namestake/zzlaws_dnsname_b1.FnInReflexiveRootCaseBlind", spec := "fnInReflexiveRootCaseBlind", apart := false }
def FnInReflexiveRootCaseBlindSaid : Prop := fnInReflexiveRootCaseBlindRow.holds Try.pinned (OpenSpec.ofChange fnInReflexiveRootCaseBlindSpec)

/-- ITS FALSE NEIGHBOUR: 'it returns false'. Refute it at one input. -/
def fnInReflexiveRootCaseBlindWrong : ChangeSpec := { name := "fnInReflexiveRootCaseBlind", fn := fun _ => fun
  | [d1, d2] => { results := [.lit (.bool false)], args := [d1, d2] }
  | _ => none }
def FnInReflexiveRootCaseBlindWrongFalsely : Prop := fnInReflexiveRootCaseBlindRow.holds Try.pinned (OpenSpec.ofChange fnInReflexiveRootCaseBlindWrong)

/-- 'zzlaws_dnsname_b1.FnInOrdered': WHATEVER THE INPUT: true; the input reads as it did. -/
def fnInOrderedSpec : ChangeSpec := { name := "fnInOrdered", fn := fun _ => fun
  | [d1, d2, d3] => { results := [.lit (.bool true)], args := [d1, d2, d3] }
  | _ => none }
def fnInOrderedRow : OpenClaim := { program := "qxb6601878a", sum := "7563739325d565cc1f946ccca46f116006b948ef71a18361c2e5450e48960ac7", func := "example.com/namestake/namestake/zzlaws_dnsname_b1.FnInOrdered", spec := "fnInOrdered", apart := false }
def FnInOrderedSaid : Prop := fnInOrderedRow.holds Try.pinned (OpenSpec.ofChange fnInOrderedSpec)

/-- ITS FALSE NEIGHBOUR: 'it returns false'. Refute it at one input. -/
def fnInOrderedWrong : ChangeSpec := { name := "fnInOrdered", fn := fun _ => fun
  | [d1, d2, d3] => { results := [.lit (.bool false)], args := [d1, d2, d3] }
  | _ => none }
def FnInOrderedWrongFalsely : Prop := fnInOrderedRow.holds Try.pinned (OpenSpec.ofChange fnInOrderedWrong)

/-- 'zzlaws_dnsname_b1.FnClosestMatchesTwoPassModel': WHATEVER THE INPUT: true; the input reads as it did. -/
def fnClosestMatchesTwoPassModelSpec : ChangeSpec := { name := "fnClosestMatchesTwoPassModel", fn := fun _ => fun
  | [d1, d2] => { results := [.lit (.bool true)], args := [d1, d2] }
  | _ => none }
def fnClosestMatchesTwoPassModelRow : OpenClaim := { program := "qxb6601878a", sum := "7563739325d565cc1f946ccca46f116006b948ef71a18361c2e5450e48960ac7", func := "example.com/namestake/namestake/zzlaws_dnsname_b1.FnClosestMatchesTwoPassModel", spec := "fnClosestMatchesTwoPassModel", apart := false }
def FnClosestMatchesTwoPassModelSaid : Prop := fnClosestMatchesTwoPassModelRow.holds Try.pinned (OpenSpec.ofChange fnClosestMatchesTwoPassModelSpec)

/-- ITS FALSE NEIGHBOUR: 'it returns false'. Refute it at one input. -/
def fnClosestMatchesTwoPassModelWrong : ChangeSpec := { name := "fnClosestMatchesTwoPassModel", fn := fun _ => fun
  | [d1, d2] => { results := [.lit (.bool false)], args := [d1, d2] }
  | _ => none }
def FnClosestMatchesTwoPassModelWrongFalsely : Prop := fnClosestMatchesTwoPassModelRow.holds Try.pinned (OpenSpec.ofChange fnClosestMatchesTwoPassModelWrong)

/-- 'zzlaws_dnsname_b1.FnClosestDropAndRoot': WHATEVER THE INPUT: true; the input reads as it did. -/
def fnClosestDropAndRootSpec : ChangeSpec := { name := "fnClosestDropAndRoot", fn := fun _ => fun
  | [d1, d2] => { results := [.lit (.bool true)], args := [d1, d2] }
  | _ => none }
def fnClosestDropAndRootRow : OpenClaim := { program := "qxb6601878a", sum := "7563739325d565cc1f946ccca46f116006b948ef71a18361c2e5450e48960ac7", func := "example.com/namestake/namestake/zzlaws_dnsname_b1.FnClosestDropAndRoot", spec := "fnClosestDropAndRoot", apart := false }
def FnClosestDropAndRootSaid : Prop := fnClosestDropAndRootRow.holds Try.pinned (OpenSpec.ofChange fnClosestDropAndRootSpec)

/-- ITS FALSE NEIGHBOUR: 'it returns false'. Refute it at one input. -/
def fnClosestDropAndRootWrong : ChangeSpec := { name := "fnClosestDropAndRoot", fn := fun _ => fun
  | [d1, d2] => { results := [.lit (.bool false)], args := [d1, d2] }
  | _ => none }
def FnClosestDropAndRootWrongFalsely : Prop := fnClosestDropAndRootRow.holds Try.pinned (OpenSpec.ofChange fnClosestDropAndRootWrong)

end Rows
end Go.Proofs.Qxb6601878a
