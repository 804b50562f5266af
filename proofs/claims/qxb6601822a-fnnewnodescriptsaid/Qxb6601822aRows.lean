/-
  No cell of these rows narrows 'for every input' (looked for: loops, veiled, ifaces, maps, wideKeys, modest, calm, conditions, laid).
  DERIVED. THE GIVEN ROWS OF THIS SEAT. 5 by the template 'for every input the law returns true; each argument reads behind the call as it read before'; 0 by the template 'total and deterministic' (their statements: Qxb6601822aTotals.lean).
  GIVEN WITH THE SEED: the statements are not yours to turn. If you find one false, say at which input.
  Laid BY PROGRAM, IN A SANDBOX (cutbox-rows.mjs): the forced cells as the released guide's own fill.sh prints them over the translation 8cf63b823a3b3229… (all of the seat's roots in one cut). By AI agents, Wed Nov 11 2026. No macro, syntax, notation, axiom, sorry.
-/
import Derived.Test.Qxb6601822aChecked
import GoSem.Claim
import GoSem.ClaimJoined
import GoSem.ClaimMapViews
import Derived.JoinedTies
import Derived.KernelRfl
namespace Go.Proofs.Qxb6601822a
/- THE CELL 'sum', in the pinned program and in every row, IS THE sha256 OF THE DUMP (.gsa) THAT Qxb6601822aProg.lean LOADS. Nothing in Lean hashes anything: it is a label: what it is worth is what the hold of that sum in a sandbox is worth. -/
noncomputable def Try.pinned : Pinned := { name := "qxb6601822a", sum := "8cf63b823a3b3229910041b0c5738da97ca421cb3b066e40aeb0dc1b6a6d7c0f", checked := Try.checked }
namespace Rows
def none {H : Type} : Left H := { results := [], args := [] }

/-- 'zzlaws_internal_yamltree_b1.FnAtKeyShiftInvariant': WHATEVER THE INPUT: true; the input reads as it did. -/
def fnAtKeyShiftInvariantSpec : ChangeSpec := { name := "fnAtKeyShiftInvariant", fn := fun _ => fun
  | [d1, d2, d3, d4, d5, d6, d7, d8] => { results := [.lit (.bool true)], args := [d1, d2, d3, d4, d5, d6, d7, d8] }
  | _ => none }
def fnAtKeyShiftInvariantRow : OpenClaim := { program := "qxb6601822a", sum := "8cf63b823a3b3229910041b0c5738da97ca421cb3b066e40aeb0dc1b6a6d7c0f", func := "example.com/vestwright/vestwright/zzlaws_internal_yamltree_b1.FnAtKeyShiftInvariant", spec := "fnAtKeyShiftInvariant", inPlace := ["internal/bytealg.IndexByteString"], apart := false }
def FnAtKeyShiftInvariantSaid : Prop := fnAtKeyShiftInvariantRow.holds Try.pinned (OpenSpec.ofChange fnAtKeyShiftInvariantSpec)

/-- ITS FALSE NEIGHBOUR: 'it returns false'. Refute it at one input. -/
def fnAtKeyShiftInvariantWrong : ChangeSpec := { name := "fnAtKeyShiftInvariant", fn := fun _ => fun
  | [d1, d2, d3, d4, d5, d6, d7, d8] => { results := [.lit (.bool false)], args := [d1, d2, d3, d4, d5, d6, d7, d8] }
  | _ => none }
def FnAtKeyShiftInvariantWrongFalsely : Prop := fnAtKeyShiftInvariantRow.holds Try.pinned (OpenSpec.ofChange fnAtKeyShiftInvariantWrong)

/-- 'zzlaws_internal_yamltree_b1.FnPlainEndMatchesModel': WHATEVER THE INPUT: true; the input reads as it did. -/
def fnPlainEndMatchesModelSpec : ChangeSpec := { name := "fnPlainEndMatchesModel", fn := fun _ => fun
  | [d1, d2, d3, d4, d5, d6, d7, d8, d9] => { results := [.lit (.bool true)], args := [d1, d2, d3, d4, d5, d6, d7, d8, d9] }
  | _ => none }
def fnPlainEndMatchesModelRow : OpenClaim := { program := "qxb6601822a", sum := "8cf63b823a3b3229910041b0c5738da97ca421cb3b066e40aeb0dc1b6a6d7c0f", func := "example.com/vestwright/vestwright/zzlaws_internal_yamltree_b1.FnPlainEndMatchesModel", spec := "fnPlainEndMatchesModel", inPlace := ["internal/bytealg.IndexByteString"], apart := false }
def FnPlainEndMatchesModelSaid : Prop := fnPlainEndMatchesModelRow.holds Try.pinned (OpenSpec.ofChange fnPlainEndMatchesModelSpec)

/-- ITS FALSE NEIGHBOUR: 'it returns false'. Refute it at one input. -/
def fnPlainEndMatchesModelWrong : ChangeSpec := { name := "fnPlainEndMatchesModel", fn := fun _ => fun
  | [d1, d2, d3, d4, d5, d6, d7, d8, d9] => { results := [.lit (.bool false)], args := [d1, d2, d3, d4, d5, d6, d7, d8, d9] }
  | _ => none }
def FnPlainEndMatchesModelWrongFalsely : Prop := fnPlainEndMatchesModelRow.holds Try.pinned (OpenSpec.ofChange fnPlainEndMatchesModelWrong)

/-- 'zzlaws_internal_yamltree_b1.FnPlainEndFlowOrder': WHATEVER THE INPUT: true; the input reads as it did. -/
def fnPlainEndFlowOrderSpec : ChangeSpec := { name := "fnPlainEndFlowOrder", fn := fun _ => fun
  | [d1, d2, d3, d4, d5, d6, d7, d8] => { results := [.lit (.bool true)], args := [d1, d2, d3, d4, d5, d6, d7, d8] }
  | _ => none }
def fnPlainEndFlowOrderRow : OpenClaim := { program := "qxb6601822a", sum := "8cf63b823a3b3229910041b0c5738da97ca421cb3b066e40aeb0dc1b6a6d7c0f", func := "example.com/vestwright/vestwright/zzlaws_internal_yamltree_b1.FnPlainEndFlowOrder", spec := "fnPlainEndFlowOrder", inPlace := ["internal/bytealg.IndexByteString"], apart := false }
def FnPlainEndFlowOrderSaid : Prop := fnPlainEndFlowOrderRow.holds Try.pinned (OpenSpec.ofChange fnPlainEndFlowOrderSpec)

/-- ITS FALSE NEIGHBOUR: 'it returns false'. Refute it at one input. -/
def fnPlainEndFlowOrderWrong : ChangeSpec := { name := "fnPlainEndFlowOrder", fn := fun _ => fun
  | [d1, d2, d3, d4, d5, d6, d7, d8] => { results := [.lit (.bool false)], args := [d1, d2, d3, d4, d5, d6, d7, d8] }
  | _ => none }
def FnPlainEndFlowOrderWrongFalsely : Prop := fnPlainEndFlowOrderRow.holds Try.pinned (OpenSpec.ofChange fnPlainEndFlowOrderWrong)

/-- 'zzlaws_internal_yamltree_b1.FnPlainEndShiftInvariant': WHATEVER THE INPUT: true; the input reads as it did. -/
def fnPlainEndShiftInvariantSpec : ChangeSpec := { name := "fnPlainEndShiftInvariant", fn := fun _ => fun
  | [d1, d2, d3, d4, d5, d6, d7, d8, d9, d10] => { results := [.lit (.bool true)], args := [d1, d2, d3, d4, d5, d6, d7, d8, d9, d10] }
  | _ => none }
def fnPlainEndShiftInvariantRow : OpenClaim := { program := "qxb6601822a", sum := "8cf63b823a3b3229910041b0c5738da97ca421cb3b066e40aeb0dc1b6a6d7c0f", func := "example.com/vestwright/vestwright/zzlaws_internal_yamltree_b1.FnPlainEndShiftInvariant", spec := "fnPlainEndShiftInvariant", inPlace := ["internal/bytealg.IndexByteString"], apart := false }
def FnPlainEndShiftInvariantSaid : Prop := fnPlainEndShiftInvariantRow.holds Try.pinned (OpenSpec.ofChange fnPlainEndShiftInvariantSpec)

/-- ITS FALSE NEIGHBOUR: 'it returns false'. Refute it at one input. -/
def fnPlainEndShiftInvariantWrong : ChangeSpec := { name := "fnPlainEndShiftInvariant", fn := fun _ => fun
  | [d1, d2, d3, d4, d5, d6, d7, d8, d9, d10] => { results := [.lit (.bool false)], args := [d1, d2, d3, d4, d5, d6, d7, d8, d9, d10] }
  | _ => none }
def FnPlainEndShiftInvariantWrongFalsely : Prop := fnPlainEndShiftInvariantRow.holds Try.pinned (OpenSpec.ofChange fnPlainEndShiftInvariantWrong)

/-- 'zzlaws_internal_yamltree_b1.FnNewNodeScript': WHATEVER THE INPUT: true; the input reads as it did. -/
def fnNewNodeScriptSpec : ChangeSpec := { name := "fnNewNodeScript", fn := fun _ => fun
  | [d1, d2] => { results := [.lit (.bool true)], args := [d1, d2] }
  | _ => none }
def fnNewNodeScriptRow : OpenClaim := { program := "qxb6601822a", sum := "8cf63b823a3b3229910041b0c5738da97ca421cb3b066e40aeb0dc1b6a6d7c0f", func := "example.com/vestwright/vestwright/zzlaws_internal_yamltree_b1.FnNewNodeScript", spec := "fnNewNodeScript", apart := false }
def FnNewNodeScriptSaid : Prop := fnNewNodeScriptRow.holds Try.pinned (OpenSpec.ofChange fnNewNodeScriptSpec)

/-- ITS FALSE NEIGHBOUR: 'it returns false'. Refute it at one input. -/
def fnNewNodeScriptWrong : ChangeSpec := { name := "fnNewNodeScript", fn := fun _ => fun
  | [d1, d2] => { results := [.lit (.bool false)], args := [d1, d2] }
  | _ => none }
def FnNewNodeScriptWrongFalsely : Prop := fnNewNodeScriptRow.holds Try.pinned (OpenSpec.ofChange fnNewNodeScriptWrong)

end Rows
end Go.Proofs.Qxb6601822a
