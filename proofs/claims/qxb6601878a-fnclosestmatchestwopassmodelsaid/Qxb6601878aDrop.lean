/- FnClosestDropAndRoot, its head. -/
import Derived.Test.Qxb6601878aStrs
namespace Go.Proofs.Qxb6601878a
open Go.RowKit
attribute [local go_sem ↓] Go.wp_at_zero Go.wp_at_succ

theorem zones_start (wk : World) (zs : List ByteArray) : (wk.alloc (.cells (madeCells #[.string ⟨#[]⟩] zs.length) 24)).rowIs wk.heap.size 24 zs.length (rootMid zs 0) ∧ Below wk.heap.size wk (wk.alloc (.cells (madeCells #[.string ⟨#[]⟩] zs.length) 24)) :=
  ⟨(World.rowIs_made wk (.string ⟨#[]⟩) zs.length 24).congr (fun i _ => by simp [rootMid]), (Below.refl _ _).alloc (Nat.le_refl _) _⟩

theorem zones_end {wr : World} {B : Nat} {zs : List ByteArray} (h : wr.rowIs B 24 zs.length (rootMid zs zs.length)) : wr.rowIs B 24 zs.length (zAt zs) :=
  h.congr fun i hi => by unfold rootMid zAt; rw [if_pos hi]

set_option maxRecDepth 100000 in
set_option maxHeartbeats 2000000 in
theorem drop_any (n : ByteArray) (ad : Option Addr) (cap : Nat) (zs : List ByteArray) (w : World) (hn : n.size ≤ maxLen) (hz : Zw w ad zs) :
    Calls Try.prog 8 #[.string n, .slice ad zs.length cap] w fun e w' => e = .returned (.bool true) ∧ Below w.heap.size w w' := by
  have hl := hz.len
  have HN := hid hn
  unfold maxLen at hn hl
  have HZ := hid hz
  clear hz
  go_enter Try.func8, Try.ntmps8
  go_wp2_with fail
  refine (bytes23 n ad cap zs _ HN.out HZ.out).mono ?_
  rintro e w' ⟨⟨x, rfl, hx⟩, rfl⟩
  cases x
  · go_wp2
    go_ret
    exact ⟨rfl, Below.refl _ _⟩
  · have HSM := hid (hx rfl)
    clear hx
    by_cases hb1 : 65536 < zs.length
    · go_wp2
      go_ret
      exact ⟨rfl, Below.refl _ _⟩
    · have d1 : decide ((65536 : Int) < (zs.length : Int)) = false := by simp; omega
      by_cases hb0 : 1048576 < n.size
      · go_wp2
        go_ret
        exact ⟨rfl, Below.refl _ _⟩
      · have d0 : decide ((1048576 : Int) < (n.size : Int)) = false := by simp; omega
        go_upto_block 0 with fail
        clear d0 d1
        go_cut [5, 6] from 20 (fun s5 s6 wd => (∃ q : Nat, q ≤ 3000000 ∧ s5 = .int .i64 q) ∧ w = wd)
        case first =>
          go_wp2
          go_loop [5, 6] (fun s t => ∃ k q : Nat, k ≤ zs.length ∧ q ≤ 3000000 ∧ s = .int .i64 q ∧ t = .int .i64 k) (fun _ t => zs.length - (intOf t).toNat)
          case atStart => exact ⟨0, n.size + 8 * zs.length, Nat.zero_le _, by omega, by go_num, rfl⟩
          case round =>
            obtain ⟨k, q, hk, hq, rfl, rfl⟩ := hrel
            by_cases hlt : k < zs.length
            · obtain ⟨b, off, z, rfl, h1, hzz, -⟩ := HZ.out.get hlt
              have hsz := HSM.out k hlt
              rw [hzz] at hsz
              clear hzz
              by_cases h4 : 1048576 < q + z.size
              · go_wp2
                go_ret
                exact ⟨rfl, Below.refl _ _⟩
              · go_wp2
                go_round
                case rel => exact ⟨k + 1, q + z.size, by omega, by omega, by go_num, by go_num⟩
                case measure => simp [intOf]; omega
            · obtain rfl : k = zs.length := by omega
              go_wp2
              go_meet
              case rel => exact ⟨⟨q, hq, rfl⟩, rfl⟩
        case rest =>
          obtain ⟨⟨q, hq, rfl⟩, rfl⟩ := hcut
          by_cases hbig : 1048576 < q
          · go_wp2
            go_ret
            exact ⟨rfl, Below.refl _ _⟩
          · go_wp2_with fail
            refine (wf_any n _ (by omega)).mono ?_
            rintro e w' ⟨rfl, rfl⟩
            cases hwf : wf (bl n)
            · go_wp2
              go_ret
              exact ⟨rfl, Below.refl _ _⟩
            · have HWF := hid hwf
              clear hwf
              go_upto_region 19 with fail
              go_cut [7] from 20 (fun s7 wd => ∃ pn, s7 = .pointer (some ⟨pn, 0, none⟩) ∧ wd.cell? ⟨pn, 0, none⟩ = some (.string n) ∧ Below w.heap.size w wd)
              case first =>
                go_wp2_with fail
                refine (make_any _ _).mono ?_
                rintro e w1 ⟨rfl, hw1⟩
                have HB1 := hid (below_box hw1)
                clear hw1
                go_wp2
                go_meet
                case rel => exact ⟨_, rfl, zone_new _ _, HB1.out.alloc HB1.out.size _⟩
              case rest =>
                obtain ⟨pn, rfl, hcn, hbl⟩ := hcut
                obtain ⟨wk, hwk⟩ : ∃ wk, wk = wc := ⟨_, rfl⟩
                subst hwk
                have CN := hid hcn
                have BL := hid hbl
                have HZK := hid (HZ.out.below hbl)
                have hmk := make33 wk zs.length (by omega)
                have RST := hid (zones_start wk zs)
                clear hcn hbl HZ
                go_upto_block 2 with fail
                clear hmk
                go_cut [9] from 20 (fun s9 wd => wd.rowIs wk.heap.size 24 zs.length (zAt zs) ∧ Below wk.heap.size wk wd)
                case first =>
                  go_wp2
                  go_loopw [9] (fun t wr => ∃ k : Nat, k ≤ zs.length ∧ t = .int .i64 (k : Nat) ∧ wr.rowIs wk.heap.size 24 zs.length (rootMid zs k) ∧ Below wk.heap.size wk wr) (fun t _ => zs.length - (intOf t).toNat)
                  case atStart => exact ⟨0, Nat.zero_le _, rfl, RST.out.1, RST.out.2⟩
                  case round =>
                    obtain ⟨k, hk, rfl, hrow, hbel⟩ := hrel
                    have HR := hid hrow
                    have HB := hid hbel
                    clear hrow hbel
                    by_cases hlt : k < zs.length
                    · obtain ⟨b, off, z, rfl, h1, hzz, hsz⟩ := (HZK.out.below HB.out).get hlt
                      have HZZ := hid hzz
                      clear hzz
                      go_wp2_with fail
                      refine (make_any _ _).mono ?_
                      rintro e w1 ⟨rfl, hw1⟩
                      have hb1 := below_box hw1
                      have HR1 := hid (HR.out.of_block (hb1.block _ HR.out.lt))
                      have HB1 := hid (HB.out.trans (hb1.mono HB.out.size))
                      clear hw1 hb1 h1
                      have hcl := HR1.out.cell hlt
                      have hfl := HR1.out.frozen k
                      unfold rootMid at hcl
                      rw [if_neg (Nat.lt_irrefl _)] at hcl
                      go_wp2
                      go_roundw
                      case rel => exact ⟨k + 1, by omega, by go_num, by rw [← HZZ.out]; exact root_put HR1.out, HB1.out.setCell (Nat.le_refl _) _⟩
                      case measure => simp [intOf]; omega
                    · obtain rfl : k = zs.length := by omega
                      go_wp2
                      go_meet
                      case rel => exact ⟨zones_end HR.out, HB.out⟩
                case rest =>
                  obtain ⟨hrow, hbel⟩ := hcut
                  rename_i h
                  exact h _ _ (keptTail pn _ n zs w _ (by omega) HWF.out (by omega) HSM.out ⟨(hbel.cell (block_lt_of_cell CN.out)).trans CN.out, hrow, BL.out.trans (hbel.mono BL.out.size)⟩)

end Go.Proofs.Qxb6601878a
