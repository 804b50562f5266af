/- The walk of FnNewNodeScript: its first part, the guards and the copy. -/
import Derived.Test.Qxb6601822aTailB
namespace Go.Proofs.Qxb6601822a
open Go.RowKit Go.Maps
attribute [local go_sem ↓] Go.wp_at_zero Go.wp_at_succ

set_option maxRecDepth 100000 in
set_option maxHeartbeats 4000000 in
theorem script_some (b off len cap : Nat) (c : Int) (K A L : Nat → Int) (N : Nat → ByteArray) (w : World) (hpos : 0 < len) (hl : len ≤ maxLen) (hs : StepsAt w b off len K A L N) :
    Calls Try.prog 7 #[.int .i64 c, .slice (some ⟨b, off, none⟩) len cap] w fun e w' => e = .returned (.bool true) ∧ Below w.heap.size w w' := by
  have HL := hid hl
  unfold maxLen at hl
  have HS := hid hs
  clear hs
  go_enter Try.func7, Try.ntmps7
  go_wp2_with fail
  refine (bytes17 b off len cap c K A L N w HL.out HS.out).mono ?_
  rintro e w' ⟨⟨x, rfl⟩, rfl⟩
  cases x with
  | false =>
    go_wp2
    go_ret
    exact ⟨rfl, Below.refl _ _⟩
  | true =>
    go_upto_block 0 with fail
    go_cut [] from 21 (fun wc => w = wc)
    case first =>
      go_wp2
      go_loop [5, 6] (fun z i => ∃ k q : Nat, k ≤ len ∧ q ≤ 1048576 ∧ z = .int .i64 q ∧ i = .int .i64 k) (fun _ i => len - (intOf i).toNat)
      case atStart => exact ⟨0, 0, Nat.zero_le _, by omega, rfl, rfl⟩
      case round =>
        obtain ⟨k, q, hk, hq, rfl, rfl⟩ := hrel
        by_cases hlt : k < len
        · obtain ⟨_, h1, _, _, hsz⟩ := HS.out k hlt
          unfold maxLen at hsz
          by_cases h3 : 1048536 - (q : Int) < (N k).size
          · go_wp2
            go_ret
            exact ⟨rfl, Below.refl _ _⟩
          · go_wp2
            go_round
            case rel => exact ⟨k + 1, q + (40 + (N k).size), by omega, by omega, by go_num, by go_num⟩
            case measure => simp [intOf]; omega
        · go_wp2
          go_meet
          case rel => rfl
    case rest =>
      subst hcut
      by_cases hlen : 4096 < len
      · go_wp2
        go_ret
        exact ⟨rfl, Below.refl _ _⟩
      by_cases hc0 : c < 0
      · go_wp2
        go_ret
        exact ⟨rfl, Below.refl _ _⟩
      by_cases hc1 : 65536 < c
      · go_wp2
        go_ret
        exact ⟨rfl, Below.refl _ _⟩
      have q1 := fun (w : World) (a : Option Addr) (n c n' c' : Nat) => run_neq_slice_nil_any (P := Try.prog) w 32 35 a n c n' c' Try.underlying32
      go_upto_if 59 with fail
      go_cut [1] from 21 (fun s1 wd => CopyRel w wd s1 len K A L N)
      case first =>
        have hmk := fun w => make32 w len (by omega)
        go_wp2
        clear hmk q1
        go_loopw [8] (fun s wr => ∃ k f, k ≤ len ∧ s = .int .i64 (k : Nat) ∧ CopyMid w wr k len f K A L N) (fun s _ => len - (intOf s).toNat)
        case atStart => exact ⟨0, _, Nat.zero_le _, rfl, copy_start w len K A L N⟩
        case round =>
          obtain ⟨k, f, hk, rfl, hmid⟩ := hrel
          have HM := hid hmid
          clear hmid
          by_cases hlt : k < len
          · obtain ⟨x0, x1, x2, x3⟩ := copy_src HM.out HS.out hlt
            obtain ⟨y0, y1, y2, y3⟩ := copy_dst HM.out hlt
            obtain ⟨z0, z1, z2, z3⟩ := copy_frz HM.out (k := k)
            go_wp2
            go_roundw
            case rel => exact ⟨k + 1, _, by omega, by go_num, copy_step HM.out⟩
            case measure => simp [intOf]; omega
          · go_wp2
            go_meet
            case rel => exact ⟨rfl, copy_end HM.out (by omega) HS.out⟩
      case rest =>
        obtain ⟨rfl, hsteps, hbel, hsz⟩ := hcut
        obtain ⟨ch, rfl⟩ := Int.eq_ofNat_of_zero_le (show 0 ≤ c by omega)
        have hch : ch ≤ 65536 := by omega
        rename_i h
        exact h _ _ (tailB len ch K A L N w _ (by omega) hch hsteps hbel hsz)

end Go.Proofs.Qxb6601822a
