/- The walk of FnKindOfReadsTheFirstByteAlone. -/
import Derived.Test.Qxb6601855aWalks
import Derived.OpenShut
namespace Go.Proofs.Qxb6601855a
open Go.RowKit

/-- What a walk is told of a slice of integers that came in. -/
def RowIn (k : IntKind) (w : World) (a : Option Addr) (len cap : Nat) (zs : List Int) : Prop :=
  (a = none ∧ len = 0 ∧ cap = 0 ∧ zs = []) ∨
  ∃ x, a = some x ∧ len ≤ cap ∧ cap ≤ maxLen ∧ zs.length = cap ∧ (∀ i, i < zs.length → w.cell? (x.add i) = some (.int k (zs.getD i 0))) ∧ ∀ n ∈ zs, (Lit.int k n).wf = true

set_option maxHeartbeats 400000 in
theorem kind_walk (a0 : Option Addr) (len0 cap0 : Nat) (z0 : List Int) (w : World) (w0 : RowIn .u8 w a0 len0 cap0 z0) :
    Calls Try.prog 5 #[.slice a0 len0 cap0] w fun e w' => e = .returned (.bool true) ∧ Below w.heap.size w w' := by
  rcases w0 with ⟨rfl, rfl, rfl, rfl⟩ | ⟨x, rfl, hlc, hcm, hzl, hcell, hwf⟩
  · go_enter Try.func5, Try.ntmps5
    go_wp2_with (go_at_call 11; refine (bytes11 none 0 0 _ (by omega)).mono ?_; rintro e w' ⟨rfl, rfl⟩)
    go_ret
    exact ⟨rfl, Below.refl _ _⟩
  · unfold maxLen at hcm
    by_cases hbig : 1048576 < len0
    · go_enter Try.func5, Try.ntmps5
      go_wp2_with (go_at_call 11; refine (bytes11_no _ _ _ _ hbig).mono ?_; rintro e w' ⟨rfl, rfl⟩)
      go_ret
      exact ⟨rfl, Below.refl _ _⟩
    by_cases hz : len0 = 0
    · subst hz
      clear hcell
      go_enter Try.func5, Try.ntmps5
      go_wp2_with (go_at_call 11; refine (bytes11 _ _ _ _ (by omega)).mono ?_; rintro e w' ⟨rfl, rfl⟩)
      go_ret
      exact ⟨rfl, Below.refl _ _⟩
    obtain ⟨b, off, rfl, hc⟩ := ints_at hcell (by omega)
    have HC : Hid (∀ j, j < len0 → w.cell? ⟨b, off + j, none⟩ = some (.int .u8 (z0.getD j 0))) := fun j hj => hc j (by omega)
    clear hcell hwf hc hzl
    have hpos : 0 < len0 := by omega
    have hne : ((len0 : Int) == 0) = false := by simp; omega
    go_enter Try.func5, Try.ntmps5
    go_wp2_with (go_at_call 11; refine (bytes11 _ _ _ _ (by omega)).mono ?_; rintro e w' ⟨rfl, rfl⟩)
    refine (copy_some b off len0 cap0 z0 _ (by omega) HC.out).mono ?_
    rintro e w1 ⟨rfl, hrow, hbel⟩
    have hcell := hrow.cell hpos
    have HB : Hid _ := hbel
    clear hrow hbel
    go_wp2_with fail
    refine (zkindOf_any _ 0 len0 len0 _ _ hpos hcell).mono ?_
    rintro e w2 ⟨rfl, rfl⟩
    go_wp2_with fail
    refine (zkindOf_any _ 0 1 len0 _ _ (by omega) hcell).mono ?_
    rintro e w3 ⟨rfl, rfl⟩
    go_wp2_with fail
    refine (isKind_any _ _).mono ?_
    rintro e w4 ⟨rfl, rfl⟩
    go_wp2
    go_ret
    exact ⟨rfl, HB.out⟩

end Go.Proofs.Qxb6601855a
