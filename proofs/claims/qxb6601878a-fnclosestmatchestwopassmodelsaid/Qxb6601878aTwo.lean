/- The two passes: the plain law of the closest zone; ZZWire; the model's call as In's answer. -/
import Derived.Test.Qxb6601878aStrs
import Derived.Test.Qxb6601878aModel
namespace Go.Proofs.Qxb6601878a
open Go.RowKit
attribute [local go_sem ↓] Go.wp_at_zero Go.wp_at_succ

/-- One step of the first pass. -/
def mstep (n : ByteArray) (m : Int) (z : ByteArray) : Int := if inN n z && decide (m < (z.size : Int)) then (z.size : Int) else m
/-- The greatest length among the zones that the name is in, or -1. -/
def mx (n : ByteArray) (zs : List ByteArray) : Int := zs.foldl (mstep n) (-1)

theorem mx_snoc (n : ByteArray) (zs : List ByteArray) (z : ByteArray) : mx n (zs ++ [z]) = mstep n (mx n zs) z := by
  unfold mx; rw [List.foldl_append]; rfl
theorem mx_take (n : ByteArray) (zs : List ByteArray) (k : Nat) (h : k < zs.length) : mx n (zs.take (k + 1)) = mstep n (mx n (zs.take k)) (zs.getD k ⟨#[]⟩) := by
  rw [List.take_succ_eq_append_getElem h, mx_snoc, List.getD, List.getElem?_eq_getElem h]; rfl

theorem mstep_no {n z : ByteArray} {m : Int} (h : inN n z = false) : mstep n m z = m := by unfold mstep; rw [h]; rfl
theorem mstep_up {n z : ByteArray} {m : Int} (h : inN n z = true) (hm : m < (z.size : Int)) : mstep n m z = z.size := by unfold mstep; rw [h]; simp [hm]
theorem mstep_stay {n z : ByteArray} {m : Int} (hm : ¬ m < (z.size : Int)) : mstep n m z = m := by unfold mstep; simp [hm]

/-- What the fold has found: nothing, and the greatest length is -1; or the first of the longest. -/
structure Found (n : ByteArray) (zs : List ByteArray) (b : ByteArray) : Prop where
  hit : ∃ i, i < zs.length ∧ zs.getD i ⟨#[]⟩ = b ∧ ∀ j, j < i → inN n (zs.getD j ⟨#[]⟩) = true → (zs.getD j ⟨#[]⟩).size ≠ b.size
  yes : inN n b = true
  max : ∀ j, j < zs.length → inN n (zs.getD j ⟨#[]⟩) = true → (zs.getD j ⟨#[]⟩).size ≤ b.size
  len : mx n zs = b.size

theorem getD_snoc_lt (zs : List ByteArray) (z : ByteArray) {j : Nat} (h : j < zs.length) : (zs ++ [z]).getD j ⟨#[]⟩ = zs.getD j ⟨#[]⟩ := by
  rw [List.getD, List.getD, List.getElem?_append_left h]
theorem getD_snoc_eq (zs : List ByteArray) (z : ByteArray) : (zs ++ [z]).getD zs.length ⟨#[]⟩ = z := by
  rw [List.getD, List.getElem?_append_right (Nat.le_refl _), Nat.sub_self]; rfl

theorem snoc_cases {zs : List ByteArray} {z : ByteArray} {j : Nat} (h : j < (zs ++ [z]).length) : j < zs.length ∨ j = zs.length := by
  rw [List.length_append, List.length_singleton] at h; omega

def FoundIf (n : ByteArray) (zs : List ByteArray) (p : ByteArray × Bool) : Prop :=
  if p.2 then Found n zs p.1 else (p.1 = ⟨#[]⟩ ∧ mx n zs = -1 ∧ ∀ j, j < zs.length → inN n (zs.getD j ⟨#[]⟩) = false)

theorem found_keep {n : ByteArray} {zs : List ByteArray} {b z : ByteArray} (h : Found n zs b) (hz : inN n z = true → z.size ≤ b.size) : Found n (zs ++ [z]) b := by
  obtain ⟨i, hi, e, ho⟩ := h.hit
  refine ⟨⟨i, by rw [List.length_append]; omega, by rw [getD_snoc_lt _ _ hi]; exact e, fun j hj => ?_⟩, h.yes, fun j hj => ?_, ?_⟩
  · rw [getD_snoc_lt _ _ (by omega)]; exact ho j hj
  · rcases snoc_cases hj with h1 | rfl
    · rw [getD_snoc_lt _ _ h1]; exact h.max j h1
    · rw [getD_snoc_eq]; exact hz
  · rw [mx_snoc, h.len]
    by_cases hi : inN n z = true
    · rw [mstep_stay (by have := hz hi; omega)]
    · rw [mstep_no (by simpa using hi)]

theorem found_new {n : ByteArray} {zs : List ByteArray} {z : ByteArray} (hz : inN n z = true) (hlt : ∀ j, j < zs.length → inN n (zs.getD j ⟨#[]⟩) = true → (zs.getD j ⟨#[]⟩).size < z.size) (hm : mx n zs < (z.size : Int)) : Found n (zs ++ [z]) z := by
  refine ⟨⟨zs.length, by rw [List.length_append, List.length_singleton]; omega, getD_snoc_eq _ _, fun j hj => ?_⟩, hz, fun j hj => ?_, ?_⟩
  · rw [getD_snoc_lt _ _ hj]; intro h; have := hlt j hj h; omega
  · rcases snoc_cases hj with h1 | rfl
    · rw [getD_snoc_lt _ _ h1]; intro h; have := hlt j h1 h; omega
    · rw [getD_snoc_eq]; intro _; exact Nat.le_refl _
  · rw [mx_snoc, mstep_up hz hm]

theorem found_step {n : ByteArray} {zs : List ByteArray} {p : ByteArray × Bool} (z : ByteArray) (h : FoundIf n zs p) : FoundIf n (zs ++ [z]) (cstep n p z) := by
  obtain ⟨b, f⟩ := p
  unfold FoundIf at h
  cases f with
  | false =>
    obtain ⟨h1, h2, h3⟩ := h
    have h1 : b = ⟨#[]⟩ := h1
    cases hz : inN n z with
    | false =>
      rw [cstep_no hz]
      refine ⟨h1, by rw [mx_snoc, mstep_no hz, h2], fun j hj => ?_⟩
      rcases snoc_cases hj with h4 | rfl
      · rw [getD_snoc_lt _ _ h4]; exact h3 j h4
      · rw [getD_snoc_eq]; exact hz
    | true =>
      rw [cstep_first hz]
      exact found_new hz (fun j hj hx => by rw [h3 j hj] at hx; cases hx) (by rw [h2]; omega)
  | true =>
    have h : Found n zs b := h
    cases hz : inN n z with
    | false =>
      rw [cstep_no hz]
      exact found_keep h (fun hx => by rw [hz] at hx; cases hx)
    | true =>
      by_cases hs : b.size < z.size
      · rw [cstep_more hz hs]
        exact found_new hz (fun j hj hx => Nat.lt_of_le_of_lt (h.max j hj hx) hs) (by rw [h.len]; exact Int.ofNat_lt.2 hs)
      · rw [cstep_less hs]
        exact found_keep h (fun _ => Nat.le_of_not_lt hs)

theorem found_take (n : ByteArray) (zs : List ByteArray) : ∀ k, k ≤ zs.length → FoundIf n (zs.take k) (clo n (zs.take k)) := fun k => by
  induction k with
  | zero => intro _; exact ⟨rfl, rfl, fun j hj => by simp at hj⟩
  | succ k ih =>
    intro hk
    rw [clo_take n zs k hk, List.take_succ_eq_append_getElem hk, List.getD, List.getElem?_eq_getElem hk]
    exact found_step _ (ih (by omega))

theorem found_all (n : ByteArray) (zs : List ByteArray) : FoundIf n zs (clo n zs) := by
  have := found_take n zs zs.length (Nat.le_refl _)
  rwa [List.take_length] at this

theorem inM_any (n z : ByteArray) (w : World) (hs : n.size ≤ 1048576) (hz : z.size ≤ 1048576) (hwf : wf (bl n) = true) :
    Calls Try.prog 17 #[.string n, .string z] w fun e w' => e = .returned (.bool (inN n z)) ∧ Below w.heap.size w w' := by
  refine (model_any n z w hs hz hwf).mono ?_
  rintro e w' ⟨rfl, h⟩
  exact ⟨by unfold inN; rw [model_in hwf], h⟩

theorem wire_any (s : ByteArray) (w : World) :
    Calls Try.prog 22 #[.agg #[.string s]] w fun e w' => e = .returned (.string s) ∧ Below w.heap.size w w' := by
  have hfl := field24
  go_enter Try.func22, Try.ntmps22
  go_wp2
  go_ret
  exact ⟨rfl, (Below.refl _ _).alloc (Nat.le_refl _) _⟩

end Go.Proofs.Qxb6601878a
