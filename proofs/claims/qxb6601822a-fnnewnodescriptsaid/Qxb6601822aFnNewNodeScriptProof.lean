/-
  The proof of the given statement: the frame is turned from the seat's shells for slices (proof-skeleton.mjs), at this function's number and types; the walks are in Script and Empty.
-/
import Derived.Test.Qxb6601822aRows
import Derived.WalkKit
import Derived.ProofKit
import Derived.OpenShut
import Derived.ShutString
import Derived.ChangeOld
import Derived.Below
import Derived.Test.Qxb6601822aScript
import Derived.Test.Qxb6601822aEmpty
import Derived.Test.Qxb6601822aOpen
namespace Go.Proofs.Qxb6601822a.fnNewNodeScript
open Go.ChangeShapes Go.WideShapes Go.ChangeAt Go.RowKit
set_option linter.unusedVariables false

theorem own : ownKnob Try.prog.godebug = none := by kernel_rfl
theorem laidOut : laidOutB Try.prog = true := by kernel_rfl

theorem walk (a0 : Int) (a1 : Option Addr) (len1 cap1 : Nat) (w : World)
    (h1 : (a1 = none ∧ len1 = 0 ∧ cap1 = 0) ∨ ∃ (a : Addr) (K A L : Nat → Int) (N : Nat → ByteArray), a1 = some a ∧ len1 ≤ maxLen ∧
      ∀ i, i < len1 → w.cell? (a.add (i * 4)) = some (.int .u8 (K i)) ∧ w.cell? (a.add (i * 4 + 1)) = some (.string (N i)) ∧ w.cell? (a.add (i * 4 + 2)) = some (.int .i64 (A i)) ∧ w.cell? (a.add (i * 4 + 3)) = some (.int .i64 (L i)) ∧ (N i).size ≤ maxLen) :
    Calls Try.prog 7 #[.int .i64 a0, .slice a1 len1 cap1] w fun e w' => e = .returned (.bool true) ∧ Below w.heap.size w w' := by
  rcases h1 with ⟨rfl, rfl, rfl⟩ | ⟨a, K, A, L, N, rfl, hl, hc⟩
  · exact script_nil a0 w
  · by_cases hz : len1 = 0
    · subst hz
      exact script_zero a cap1 a0 w
    · obtain ⟨b, off, rfl, hs⟩ := steps_at (by omega) hc
      exact script_some b off len1 cap1 a0 K A L N w (by omega) hl hs

/-! ### The row's step -/
set_option maxRecDepth 100000 in
theorem lifted (os : Os) (started : os.Started) (H : Type) (enc : TypeId × Value → H) :
    ReturnsInHanded {} Try.checked os 7 .any (Rows.fnNewNodeScriptSpec.pre6 enc Try.prog Try.f7 Rows.fnNewNodeScriptRow.domain false) (Rows.fnNewNodeScriptSpec.post enc Try.prog Try.f7 false true false false) := by
  refine returnsInHanded_of_change (C := Try.checked) own started (by kernel_rfl) Try.func7
    (ChangeSpec.witness6 (enc := enc) (C := Try.checked) false ⟨#[], #[.int .i64 0, .slice none 0 0], []⟩ 8 (by kernel_rfl) (by kernel_rfl) (by kernel_rfl) (by kernel_rfl)) ?_
  intro W base args ds gs before hval0 hW hcnd _
  have hval : ∀ (j : Nat) t v, Try.f7.params[j]? = some t → args[j]? = some v → Value.okWide Try.prog W .any base t v := hval0
  have hW' := hW
  obtain ⟨p, q, hA0, hV, rfl, hfz, hnd⟩ := hW
  have hA : DataW.TrodAll enc Try.prog W 0 (fun _ => true) true Try.f7.params.toList args.toList ds p := hA0
  rw [Try.params7] at hA hval
  obtain ⟨v0, vs0, d0, ds0, p0, q0, hargs, rfl, rfl, h0, r0⟩ := trodAll_cons hA
  obtain ⟨v1, vs1, d1, ds1, p1, q1, rfl, rfl, rfl, h1, r1⟩ := trodAll_cons r0
  obtain ⟨rfl, rfl, rfl⟩ := trodAll_nil r1
  obtain rfl : args = #[v0, v1] := by cases args; simp_all
  obtain ⟨rfl, rfl⟩ := trodVars_none hV
  obtain ⟨a0, rfl, rfl, rfl, w0⟩ := open_int Try.underlying3 (hval 0 3 v0 rfl rfl) h0
  obtain ⟨a1, len1, cap1, rfl⟩ := okWide_slice Try.underlying32 (hval 1 32 v1 rfl rfl)
  have k1 := h1
  have lt1 : ∀ x ∈ p1, x.block < W.heap.size := by obtain ⟨m, hm⟩ := k1; exact DataW.trod_lt m _ _ _ hm
  have w1 : (a1 = none ∧ len1 = 0 ∧ cap1 = 0) ∨ ∃ (a : Addr) (K A L : Nat → Int) (N : Nat → ByteArray), a1 = some a ∧ len1 ≤ maxLen ∧
      ∀ i, i < len1 → W.cell? (a.add (i * 4)) = some (.int .u8 (K i)) ∧ W.cell? (a.add (i * 4 + 1)) = some (.string (N i)) ∧ W.cell? (a.add (i * 4 + 2)) = some (.int .i64 (A i)) ∧ W.cell? (a.add (i * 4 + 3)) = some (.int .i64 (L i)) ∧ (N i).size ≤ maxLen := by
    obtain ⟨fuel, hf⟩ := h1
    rcases open_steps (fun _ => rfl) hf with hcs | ⟨a, len, cap, K, A, L, N, hcs, hl, hc⟩
    · simp [Value.cells] at hcs
      exact .inl hcs
    · simp [Value.cells] at hcs
      obtain ⟨rfl, rfl, rfl⟩ := hcs
      exact .inr ⟨a, K, A, L, N, rfl, hl, hc⟩
  clear hA0 hval0
  refine (walk a0 a1 len1 cap1 W w1).mono fun e W' ⟨he, bel⟩ => ?_
  subst he
  exact ⟨_, rfl, _, _, _, [], _, [], hW', trodAll_mk1 (shut_bool Try.underlying4 _), (trodAll_cons_mk (shut_int Try.underlying3 w0) (trodAll_cons_mk (Below.trod laidOut (by kernel_rfl) (of_decide_eq_true (by kernel_rfl)) k1 bel lt1) trodAll_mk0)), rfl, bel.frame _, fun h => by cases h⟩

theorem over : Rows.fnNewNodeScriptRow.holds Try.pinned (OpenSpec.ofChange Rows.fnNewNodeScriptSpec) :=
  OpenClaim.holds_of_wide 7 Try.f7 rfl rfl rfl rfl rfl rfl rfl ⟨rfl, rfl, rfl, rfl, rfl⟩ rfl rfl rfl rfl rfl (by kernel_rfl) Try.func7 (by kernel_rfl)
    (of_decide_eq_true (by kernel_rfl)) (by unfold Func.isWrapper; first | (rw [if_pos (by decide +kernel)]; kernel_rfl) | (rw [if_neg (by decide +kernel)]; exact ⟨rfl, rfl⟩))
    (fun os started H enc _ => lifted os started H enc)

/-- THE STATEMENT -/
theorem proved : Rows.FnNewNodeScriptSaid := over
#print axioms proved
end Go.Proofs.Qxb6601822a.fnNewNodeScript
