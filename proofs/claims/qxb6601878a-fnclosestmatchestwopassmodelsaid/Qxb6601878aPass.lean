/- FnClosestMatchesTwoPassModel, its head. -/
import Derived.Test.Qxb6601878aDrop
import Derived.Test.Qxb6601878aPasses
namespace Go.Proofs.Qxb6601878a
open Go.RowKit
attribute [local go_sem ↓] Go.wp_at_zero Go.wp_at_succ

set_option maxRecDepth 100000 in
set_option maxHeartbeats 2000000 in
theorem pass_any (n : ByteArray) (ad : Option Addr) (cap : Nat) (zs : List ByteArray) (w : World) (hn : n.size ≤ maxLen) (hz : Zw w ad zs) :
    Calls Try.prog 7 #[.string n, .slice ad zs.length cap] w fun e w' => e = .returned (.bool true) ∧ Below w.heap.size w w' := by
  have hl := hz.len
  have HN := hid hn
  unfold maxLen at hn hl
  have HZ := hid hz
  clear hz
  go_enter Try.func7, Try.ntmps7
  go_wp2_with fail
  refine (bytes20 n ad cap zs _ HN.out HZ.out).mono ?_
  rintro e w' ⟨⟨x, rfl, hx⟩, rfl⟩
  cases x
  · go_wp2
    go_ret
    exact ⟨rfl, Below.refl _ _⟩
  · have HSM := hid (hx rfl)
    clear hx
    by_cases hb1 : 65536 < zs.length
    · go_wp2
      go_ret
      exact ⟨rfl, Below.refl _ _⟩
    · have d1 : decide ((65536 : Int) < (zs.length : Int)) = false := by simp; omega
      by_cases hb0 : 1048576 < n.size
      · go_wp2
        go_ret
        exact ⟨rfl, Below.refl _ _⟩
      · have d0 : decide ((1048576 : Int) < (n.size : Int)) = false := by simp; omega
        go_upto_block 0 with fail
        clear d0 d1
        go_cut [5, 6] from 14 (fun s5 s6 wd => (∃ q : Nat, q ≤ 3000000 ∧ s5 = .int .i64 q) ∧ w = wd)
        case first =>
          go_wp2
          go_loop [5, 6] (fun s t => ∃ k q : Nat, k ≤ zs.length ∧ q ≤ 3000000 ∧ s = .int .i64 q ∧ t = .int .i64 k) (fun _ t => zs.length - (intOf t).toNat)
          case atStart => exact ⟨0, n.size + 8 * zs.length, Nat.zero_le _, by omega, by go_num, rfl⟩
          case round =>
            obtain ⟨k, q, hk, hq, rfl, rfl⟩ := hrel
            by_cases hlt : k < zs.length
            · obtain ⟨b, off, z, rfl, h1, hzz, -⟩ := HZ.out.get hlt
              have hsz := HSM.out k hlt
              rw [hzz] at hsz
              clear hzz
              by_cases h4 : 1048576 < q + z.size
              · go_wp2
                go_ret
                exact ⟨rfl, Below.refl _ _⟩
              · go_wp2
                go_round
                case rel => exact ⟨k + 1, q + z.size, by omega, by omega, by go_num, by go_num⟩
                case measure => simp [intOf]; omega
            · obtain rfl : k = zs.length := by omega
              go_wp2
              go_meet
              case rel => exact ⟨⟨q, hq, rfl⟩, rfl⟩
        case rest =>
          obtain ⟨⟨q, hq, rfl⟩, rfl⟩ := hcut
          by_cases hbig : 1048576 < q
          · go_wp2
            go_ret
            exact ⟨rfl, Below.refl _ _⟩
          · go_wp2_with fail
            refine (wf_any n _ (by omega)).mono ?_
            rintro e w' ⟨rfl, rfl⟩
            cases hwf : wf (bl n)
            · go_wp2
              go_ret
              exact ⟨rfl, Below.refl _ _⟩
            · have HWF := hid hwf
              clear hwf
              have hmk := make33 w zs.length (by omega)
              have RST := hid (zones_start w zs)
              go_upto_block 2 with fail
              clear hmk
              go_cut [8] from 14 (fun s8 wd => wd.rowIs w.heap.size 24 zs.length (zAt zs) ∧ Below w.heap.size w wd)
              case first =>
                go_wp2
                go_loopw [8] (fun t wr => ∃ k : Nat, k ≤ zs.length ∧ t = .int .i64 (k : Nat) ∧ wr.rowIs w.heap.size 24 zs.length (rootMid zs k) ∧ Below w.heap.size w wr) (fun t _ => zs.length - (intOf t).toNat)
                case atStart => exact ⟨0, Nat.zero_le _, rfl, RST.out.1, RST.out.2⟩
                case round =>
                  obtain ⟨k, hk, rfl, hrow, hbel⟩ := hrel
                  have HR := hid hrow
                  have HB := hid hbel
                  clear hrow hbel
                  by_cases hlt : k < zs.length
                  · obtain ⟨b, off, z, rfl, h1, hzz, hsz⟩ := (HZ.out.below HB.out).get hlt
                    have HZZ := hid hzz
                    clear hzz
                    go_wp2_with fail
                    refine (make_any _ _).mono ?_
                    rintro e w1 ⟨rfl, hw1⟩
                    have hb1 := below_box hw1
                    have HR1 := hid (HR.out.of_block (hb1.block _ HR.out.lt))
                    have HB1 := hid (HB.out.trans (hb1.mono HB.out.size))
                    clear hw1 hb1 h1
                    have hcl := HR1.out.cell hlt
                    have hfl := HR1.out.frozen k
                    unfold rootMid at hcl
                    rw [if_neg (Nat.lt_irrefl _)] at hcl
                    go_wp2
                    go_roundw
                    case rel => exact ⟨k + 1, by omega, by go_num, by rw [← HZZ.out]; exact root_put HR1.out, HB1.out.setCell (Nat.le_refl _) _⟩
                    case measure => simp [intOf]; omega
                  · obtain rfl : k = zs.length := by omega
                    go_wp2
                    go_meet
                    case rel => exact ⟨zones_end HR.out, HB.out⟩
              case rest =>
                obtain ⟨hrow, hbel⟩ := hcut
                have HR := hid hrow
                have HB := hid hbel
                clear hrow hbel RST
                go_upto_region 24 with fail
                go_cut [9, 10] from 14 (fun s9 s10 wd => ∃ pg g ok, s9 = .pointer (some ⟨pg, 0, none⟩) ∧ s10 = .bool ok ∧ FoundIf n zs (g, ok) ∧ Pw w wd pg g ad zs)
                case first =>
                  go_wp2_with fail
                  refine (make_any _ _).mono ?_
                  rintro e w1 ⟨rfl, hw1⟩
                  have hb1 := below_box hw1
                  have HR1 := hid (HR.out.of_block (hb1.block _ HR.out.lt))
                  have HB1 := hid (HB.out.trans (hb1.mono HB.out.size))
                  clear hw1 hb1 HR HB
                  go_wp2_with fail
                  refine (closest_any n _ 0 zs.length zs _ (by omega) HWF.out (by omega) HSM.out (fun i hi => by rw [Nat.zero_add]; exact HR1.out.cell hi)).mono ?_
                  rintro e w2 ⟨rfl, hb2⟩
                  have HB2 := hid (HB1.out.trans (hb2.mono HB1.out.size))
                  have HFI := hid (found_all n zs)
                  clear hb2
                  generalize clo n zs = p at *
                  obtain ⟨g, ok⟩ := p
                  go_wp2
                  go_meet
                  case rel => exact ⟨_, g, ok, rfl, rfl, HFI.out, ⟨zone_new _ _, HZ.out.below (HB2.out.alloc HB2.out.size _), HB2.out.alloc HB2.out.size _⟩⟩
                case rest =>
                  obtain ⟨pg, g, ok, rfl, rfl, hfi, hpw⟩ := hcut
                  rename_i h
                  exact h _ _ (passTail pg cap ad n g ok zs w _ (by omega) HWF.out (by omega) HSM.out hfi hpw)

end Go.Proofs.Qxb6601878a
