/- A slice of strings among the arguments, opened as the walks want it. -/
import Derived.Test.Qxb6601878aStrs
import Derived.Deep.Strs
import Derived.ProofKit
import Derived.OpenShut
namespace Go.Proofs.Qxb6601878a
open Go.RowKit Go.ChangeShapes Go.WideShapes

theorem cells9 : Try.prog.cellsOf 9 = 1 := by kernel_rfl

theorem zw_open {H : Type} {enc : TypeId × Value → H} {W : World} {base : Nat} {spare : Nat → Bool} {held : Bool} {fuel len cap : Nat} {ad : Option Addr} {x : DataW H × List MemPlace}
    (h : DataW.trod enc Try.prog W base spare held fuel 31 [.slice ad len cap] = some x) : ∃ zs : List ByteArray, len = zs.length ∧ Zw W ad zs := by
  rcases Deep.open_strs Try.underlying31 Try.underlying9 cells9 h with ⟨hcs, _⟩ | ⟨a, len', cap', m, Sx, hcs, _, hl, hm, hmm, _, hx⟩
  · simp at hcs
    obtain ⟨rfl, rfl, rfl⟩ := hcs
    exact ⟨[], rfl, ⟨Nat.zero_le _, fun i hi => absurd hi (Nat.not_lt_zero _), fun hi => absurd hi (Nat.not_lt_zero _)⟩⟩
  · simp at hcs
    obtain ⟨rfl, rfl, rfl⟩ := hcs
    have hlm : len ≤ m := by rw [hmm]; split <;> omega
    have hg : ∀ i, i < len → ((List.range len).map Sx).getD i ⟨#[]⟩ = Sx i := fun i hi => by
      rw [List.getD, List.getElem?_map, List.getElem?_range hi]; rfl
    refine ⟨(List.range len).map Sx, by simp, ⟨by simp; omega, fun i hi => ?_, fun hp => ?_⟩⟩
    · simp at hi
      rw [hg i hi]
      exact (hx i (by omega)).2
    · simp at hp
      obtain ⟨b, off, spot⟩ := a
      have hspot : spot = none := by simpa [Addr.add] using World.cell?_spot (hx 0 (by omega)).1
      subst hspot
      refine ⟨b, off, rfl, fun i hi => ?_⟩
      simp at hi
      rw [hg i hi]
      have := (hx i (by omega)).1
      rwa [add_plain] at this

end Go.Proofs.Qxb6601878a
