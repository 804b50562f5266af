/- The walk of FnInMatchesSuffixModel. -/
import Derived.Test.Qxb6601878aModel
namespace Go.Proofs.Qxb6601878a
open Go.RowKit
attribute [local go_sem ↓] Go.wp_at_zero Go.wp_at_succ

theorem below_alloc {w w' : World} {b : Obj} (h : w.alloc b = w') : Below w.heap.size w w' := by rw [← h]; exact (Below.refl _ _).alloc (Nat.le_refl _) _

set_option maxRecDepth 100000 in
set_option maxHeartbeats 1000000 in
theorem match_core (n z : ByteArray) (w : World) (hn : n.size ≤ maxLen) (hz : z.size ≤ maxLen) :
    Calls Try.prog 4 #[.string n, .string z] w fun e w' => e = .returned (.bool true) ∧ Below w.heap.size w w' := by
  have HN := hid hn
  have HZ := hid hz
  unfold maxLen at hn hz
  go_enter Try.func4, Try.ntmps4
  go_wp2_with fail
  refine (bytes14 n z _ HN.out HZ.out).mono ?_
  rintro e w' ⟨⟨x, rfl⟩, rfl⟩
  cases x
  · go_wp2
    go_ret
    exact ⟨rfl, Below.refl _ _⟩
  · by_cases hb1 : 524288 < n.size
    · go_wp2
      go_ret
      exact ⟨rfl, Below.refl _ _⟩
    · have d1 : decide ((524288 : Int) < (n.size : Int)) = false := by simp; omega
      by_cases hb2 : 524288 < z.size
      · go_wp2
        go_ret
        exact ⟨rfl, Below.refl _ _⟩
      · have d2 : decide ((524288 : Int) < (z.size : Int)) = false := by simp; omega
        go_wp2_with fail
        refine (wf_any n _ (by omega)).mono ?_
        rintro e w' ⟨rfl, rfl⟩
        cases hwf : wf (bl n)
        · go_wp2
          go_ret
          exact ⟨rfl, Below.refl _ _⟩
        · have HWF := hid hwf
          have HM := hid (model_in hwf (bl z))
          clear hwf d1 d2
          go_wp2_with fail
          refine (make_any _ _).mono ?_
          rintro e w1 ⟨rfl, hw1⟩
          have HB1 := hid (below_alloc hw1)
          clear hw1
          go_wp2_with fail
          refine (make_any _ _).mono ?_
          rintro e w2 ⟨rfl, hw2⟩
          have HB2 := hid (HB1.out.trans ((below_alloc hw2).mono HB1.out.size))
          clear hw2 HB1
          go_wp2_with fail
          refine (in_any n z _ (by omega) (by omega) HWF.out).mono ?_
          rintro e w3 ⟨rfl, hb3⟩
          have HB3 := hid (HB2.out.trans (hb3.mono HB2.out.size))
          clear hb3 HB2
          rw [HM.out]
          go_wp2_with fail
          refine (model_any n z _ (by omega) (by omega) HWF.out).mono ?_
          rintro e w4 ⟨rfl, hb4⟩
          have HB4 := hid (HB3.out.trans (hb4.mono HB3.out.size))
          clear hb4 HB3 HM
          cases model (bl n) (bl z)
          · go_wp2
            go_ret
            exact ⟨rfl, HB4.out⟩
          · go_wp2
            go_ret
            exact ⟨rfl, HB4.out⟩

end Go.Proofs.Qxb6601878a
