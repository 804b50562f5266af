/- The walk of FnSkipSpaceStopsAtTheFirstNonSpace. -/
import Derived.Test.Qxb6601855aKind
namespace Go.Proofs.Qxb6601855a
open Go.RowKit

theorem isSpace_at (c : Int) (w : World) : Calls Try.prog 9 #[.int .u8 c] w fun e w' => e = .returned (.bool (isSp c)) ∧ w = w' :=
  (isSpace_any c w).mono fun _ _ h => ⟨h.1, h.2.symm⟩

theorem ret_true {a : Bool} (h : a = true) : Ending.returned (.bool a) = .returned (.bool true) := by rw [h]

set_option maxHeartbeats 400000 in
theorem skip_small (a0 : Option Addr) (len0 cap0 : Nat) (i : Int) (w : World) (h : 1048576 < len0 ∨ (len0 ≤ 1048576 ∧ i < 0)) :
    Calls Try.prog 3 #[.slice a0 len0 cap0, .int .i64 i] w fun e w' => e = .returned (.bool true) ∧ w' = w := by
  rcases h with h | ⟨h, h1⟩
  · go_enter Try.func3, Try.ntmps3
    go_wp2_with (go_at_call 6; refine (bytes6_no _ _ _ _ _ h).mono ?_; rintro e w ⟨rfl, rfl⟩)
    go_ret
    exact ⟨rfl, rfl⟩
  · go_enter Try.func3, Try.ntmps3
    go_wp2_with (go_at_call 6; refine (bytes6 _ _ _ _ _ h).mono ?_; rintro e w ⟨rfl, rfl⟩)
    go_ret
    exact ⟨rfl, rfl⟩

set_option maxHeartbeats 400000 in
theorem skip_nil (i : Int) (w : World) (h0 : 0 ≤ i) :
    Calls Try.prog 3 #[.slice none 0 0, .int .i64 i] w fun e w' => e = .returned (.bool true) ∧ w' = w := by
  go_enter Try.func3, Try.ntmps3
  go_wp2_with (first | (go_at_call 6; refine (bytes6 _ _ _ _ _ (by omega)).mono ?_; rintro e w ⟨rfl, rfl⟩) | (go_at_call 7; refine (copy_nil _).mono ?_; rintro e w ⟨rfl, rfl⟩) | (go_at_call 8; refine (zskip_past _ _ _ _ _ (by simpa using h0)).mono ?_; rintro e w ⟨rfl, rfl⟩))
  go_ret
  exact ⟨ret_true (by simp), rfl⟩

set_option maxHeartbeats 400000 in
theorem skip_past_end (a : Addr) (len0 cap0 : Nat) (i : Int) (w : World) (h0 : 0 ≤ i) (hl : len0 ≤ 1048576) (hi : (len0 : Int) ≤ i)
    (hcopy : Calls Try.prog 7 #[.slice (some a) len0 cap0] w fun e w' => e = .returned (.slice (some ⟨w.heap.size, 0, none⟩) len0 len0) ∧ Below w.heap.size w w') :
    Calls Try.prog 3 #[.slice (some a) len0 cap0, .int .i64 i] w fun e w' => e = .returned (.bool true) ∧ Below w.heap.size w w' := by
  have HK : Hid (Calls Try.prog 7 #[.slice (some a) len0 cap0] w fun e w' => e = .returned (.slice (some ⟨w.heap.size, 0, none⟩) len0 len0) ∧ Below w.heap.size w w') := hcopy
  clear hcopy
  go_enter Try.func3, Try.ntmps3
  go_wp2_with (go_at_call 6; refine (bytes6 _ _ _ _ _ (by omega)).mono ?_; rintro e w ⟨rfl, rfl⟩)
  refine Calls.mono HK.out ?_
  rintro e w1 ⟨rfl, hbel⟩
  have HB : Hid _ := hbel
  clear hbel
  go_wp2_with fail
  refine (zskip_past _ _ _ _ _ hi).mono ?_
  rintro e w ⟨rfl, rfl⟩
  go_wp2
  go_ret
  exact ⟨ret_true (by simp), HB.out⟩

set_option maxHeartbeats 800000 in
theorem skip_inside (b off len0 cap0 i : Nat) (z0 : List Int) (w : World) (hl : len0 ≤ 1048576) (hi : i < len0)
    (hc : ∀ j, j < len0 → w.cell? ⟨b, off + j, none⟩ = some (.int .u8 (z0.getD j 0))) :
    Calls Try.prog 3 #[.slice (some ⟨b, off, none⟩) len0 cap0, .int .i64 i] w fun e w' => e = .returned (.bool true) ∧ Below w.heap.size w w' := by
  have HC : Hid (∀ j, j < len0 → w.cell? ⟨b, off + j, none⟩ = some (.int .u8 (z0.getD j 0))) := hc
  clear hc
  go_enter Try.func3, Try.ntmps3
  go_wp2_with (go_at_call 6; refine (bytes6 _ _ _ _ _ (by omega)).mono ?_; rintro e w ⟨rfl, rfl⟩)
  refine (copy_some b off len0 cap0 z0 _ (by omega) HC.out).mono ?_
  rintro e w1 ⟨rfl, hrow, hbel⟩
  have hcw : ∀ j, j < len0 → w1.cell? ⟨w.heap.size, 0 + j, none⟩ = some (.int .u8 (z0.getD j 0)) := fun j hj => by rw [Nat.zero_add]; exact hrow.cell hj
  have HW : Hid _ := hcw
  have HB : Hid _ := hbel
  clear hrow hbel hcw
  go_wp2_with fail
  refine (zskip_any w.heap.size 0 len0 len0 i (fun j => z0.getD j 0) _ hl (by omega) HW.out).mono ?_
  rintro e w2 ⟨⟨r, rfl, h1, h2, h3, h4⟩, rfl⟩
  have H3 : Hid _ := h3
  have H4 : Hid _ := h4
  clear h3 h4
  have d1 : decide (r < i) = false := by simp; omega
  have d2 : decide (len0 < r) = false := by simp; omega
  have d3 : decide (len0 ≤ i) = false := by simp; omega
  go_wp2
  clear d1 d2 d3
  go_loop [6] (fun s => ∃ k : Nat, i ≤ k ∧ k ≤ r ∧ s = .int .i64 k) (fun s => r - (intOf s).toNat)
  case atStart => exact ⟨i, Nat.le_refl _, h1, rfl⟩
  case round =>
    obtain ⟨k, hk1, hk2, rfl⟩ := hrel
    by_cases hlt : k < r
    · obtain ⟨c, ec⟩ : ∃ c, c = z0.getD k 0 := ⟨_, rfl⟩
      have hs : isSp c = true := by rw [ec]; exact H3.out k hk1 hlt
      have hcx : w2.cell? ⟨w.heap.size, k, none⟩ = some (.int .u8 c) := by rw [ec]; have := HW.out k (by omega); rwa [Nat.zero_add] at this
      clear ec
      go_wp2_with (go_at_call 9; refine (isSpace_at _ _).mono ?_; rintro e w' ⟨rfl, rfl⟩)
      go_round
      case rel => exact ⟨k + 1, by omega, by omega, by go_num⟩
      case measure => simp [intOf]; omega
    · by_cases hr : r = len0
      · subst hr
        go_wp2_with (go_at_call 9; refine (isSpace_at _ _).mono ?_; rintro e w' ⟨rfl, rfl⟩)
        go_ret
        exact ⟨rfl, HB.out⟩
      · obtain ⟨c, ec⟩ : ∃ c, c = z0.getD r 0 := ⟨_, rfl⟩
        have hs : isSp c = false := by rw [ec]; exact (H4.out).resolve_left hr
        have hcx : w2.cell? ⟨w.heap.size, r, none⟩ = some (.int .u8 c) := by rw [ec]; have := HW.out r (by omega); rwa [Nat.zero_add] at this
        clear ec
        go_wp2_with (go_at_call 9; refine (isSpace_at _ _).mono ?_; rintro e w' ⟨rfl, rfl⟩)
        go_ret
        exact ⟨rfl, HB.out⟩

theorem skip_walk (a0 : Option Addr) (len0 cap0 : Nat) (z0 : List Int) (a1 : Int) (w : World) (w0 : RowIn .u8 w a0 len0 cap0 z0) :
    Calls Try.prog 3 #[.slice a0 len0 cap0, .int .i64 a1] w fun e w' => e = .returned (.bool true) ∧ Below w.heap.size w w' := by
  by_cases hs : 1048576 < len0 ∨ (len0 ≤ 1048576 ∧ a1 < 0)
  · refine (skip_small a0 len0 cap0 a1 w hs).mono ?_
    rintro e w' ⟨rfl, rfl⟩
    exact ⟨rfl, Below.refl _ _⟩
  have hl : len0 ≤ 1048576 := by omega
  have hn : 0 ≤ a1 := by omega
  rcases w0 with ⟨rfl, rfl, rfl, rfl⟩ | ⟨x, rfl, hlc, hcm, hzl, hcell, hwf⟩
  · refine (skip_nil a1 w hn).mono ?_
    rintro e w' ⟨rfl, rfl⟩
    exact ⟨rfl, Below.refl _ _⟩
  · by_cases hz : len0 = 0
    · subst hz
      refine skip_past_end x 0 cap0 a1 w hn hl (by simpa using hn) ((copy_empty x cap0 w (fun _ => .int .u8 0)).mono ?_)
      rintro e w' ⟨rfl, _, hb⟩
      exact ⟨rfl, hb⟩
    obtain ⟨b, off, rfl, hc⟩ := ints_at hcell (by omega)
    by_cases hi : a1 < len0
    · obtain ⟨i, rfl⟩ := Int.eq_ofNat_of_zero_le hn
      exact skip_inside b off len0 cap0 i z0 w hl (by omega) (fun j hj => hc j (by omega))
    · refine skip_past_end _ len0 cap0 a1 w hn hl (by omega) ((copy_some b off len0 cap0 z0 w hl (fun j hj => hc j (by omega))).mono ?_)
      rintro e w' ⟨rfl, _, hb⟩
      exact ⟨rfl, hb⟩

end Go.Proofs.Qxb6601855a
