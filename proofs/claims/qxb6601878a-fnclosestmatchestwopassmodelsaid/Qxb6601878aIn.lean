/- The walk of In. -/
import Derived.Test.Qxb6601878aWalks
import Derived.Deep.RegionWith
import Derived.Deep.DrawnRows
import Derived.Deep.CutBlock
namespace Go.Proofs.Qxb6601878a
open Go.RowKit
attribute [local go_sem ↓] Go.wp_at_zero Go.wp_at_succ

theorem bcell {W w1 : World} (hb : Below W.heap.size W w1) : (∀ b o, b < W.heap.size → w1.cell? ⟨b, o, none⟩ = W.cell? ⟨b, o, none⟩) ∧ (∀ b o, b < W.heap.size → w1.frozen? ⟨b, o, none⟩ = W.frozen? ⟨b, o, none⟩) :=
  ⟨fun b o h => hb.cell (p := ⟨b, o, none⟩) h, fun b o h => hb.frozen (p := ⟨b, o, none⟩) h⟩

theorem field24 (w : World) (x : ByteArray) : (Instr.field 24 (.agg #[.string x]) 0).run Try.prog w = .ok (.string x) w := by kernel_rfl

theorem two_below {w : World} {o1 o2 : Obj} {w1 w2 : World} (h1 : Below ((w.alloc o1).alloc o2).drew.heap.size ((w.alloc o1).alloc o2).drew w1) (h2 : Below w1.heap.size w1 w2) : Below w.heap.size w w2 := by
  have h0 : Below w.heap.size w ((w.alloc o1).alloc o2).drew := (((Below.refl _ _).alloc (Nat.le_refl _) _).alloc (by simp) _).drew
  exact (h0.trans (h1.mono h0.size)).trans (h2.mono (Nat.le_trans h0.size h1.size))

theorem ext_drop (s : ByteArray) (i : Nat) : (s.extract i s.size).toList = (bl s).drop i := by
  rw [ByteArray.toList_eq]
  simp [bl, ByteArray.data_extract]
  exact List.take_of_length_le (by rw [List.length_drop]; exact Nat.le_refl _)

theorem miss {cn cz : ByteArray} {i : Nat} (h : ((cn.extract i cn.size).toList == cz.toList) = false) : ((bl cn).drop i == bl cz) = false := by
  rw [ext_drop, ByteArray.toList_eq] at h
  exact h

theorem in_hit {cn cz : ByteArray} {i : Nat} (h : ((cn.extract i cn.size).toList == cz.toList) = true) : inB ((bl cn).drop i) (bl cz) = true := by
  rw [ext_drop, ByteArray.toList_eq] at h
  rw [eq_of_beq h]
  exact inB_refl _

theorem in_end {cn cz : ByteArray} {i : Nat} (h : ((cn.extract i cn.size).toList == cz.toList) = false) (hi : cn.size ≤ i) : inB ((bl cn).drop i) (bl cz) = false := by
  have hm := miss h
  rw [List.drop_of_length_le (by rw [bl_length]; exact hi)] at hm ⊢
  exact inB_nil _ hm

theorem wf_parts {s : ByteArray} {i : Nat} (hi : i < s.size) (h : wf ((bl s).drop i) = true) : s[i].toNat ≤ 63 ∧ i + 1 + s[i].toNat ≤ s.size ∧ wf ((bl s).drop (i + 1 + s[i].toNat)) = true := by
  rw [wf_at s i hi] at h
  simpa using h

theorem in_on {cn cz : ByteArray} {i : Nat} (hi : i < cn.size) (h : ((cn.extract i cn.size).toList == cz.toList) = false) : inB ((bl cn).drop (i + 1 + cn[i].toNat)) (bl cz) = inB ((bl cn).drop i) (bl cz) := by
  have hm := miss h
  rw [bl_drop cn i hi] at hm ⊢
  rw [inB_cons _ _ _ hm, List.drop_drop]

set_option maxHeartbeats 400000 in
theorem in_any (n z : ByteArray) (w : World) (hn : n.size ≤ 1048576) (hz : z.size ≤ 1048576) (hwf : wf (bl n) = true) :
    Calls Try.prog 16 #[.agg #[.string n], .agg #[.string z]] w fun e w' => e = .returned (.bool (inB (lowL (bl n)) (lowL (bl z)))) ∧ Below w.heap.size w w' := by
  have HWF := hid hwf
  clear hwf
  have hfl := field24
  go_enter Try.func16, Try.ntmps16
  go_upto_region 1 with fail
  go_cut [5, 6] from 8 (fun s5 s6 wd => s5 = .string (canonB n) ∧ s6 = .string (canonB z) ∧ Below w.heap.size w wd)
  case first =>
    go_region_with (first | (go_at_call_of 11 n; refine (canon_any n _ hn).mono ?_; rintro e w1 ⟨rfl, hb⟩; obtain ⟨hc, hf⟩ := bcell hb; have HB1 := hid hb; clear hb) | (go_at_call_of 11 z; refine (canon_any z _ hz).mono ?_; rintro e w2 ⟨rfl, hb⟩; have HB2 := hid hb; clear hb))
    all_goals
      go_wp2_with fail
      go_meet
      case rel => exact ⟨rfl, rfl, two_below HB1.out HB2.out⟩
  case rest =>
    obtain ⟨rfl, rfl, hbel⟩ := hcut
    have HB := hid hbel
    clear hbel hfl
    obtain ⟨cn, hcn⟩ : ∃ cn, cn = canonB n := ⟨_, rfl⟩
    obtain ⟨cz, hcz⟩ : ∃ cz, cz = canonB z := ⟨_, rfl⟩
    rw [← hcn, ← hcz]
    have hsz : cn.size ≤ 1048576 := by rw [hcn, canonB_size]; exact hn
    have hw0 : wf (bl cn) = true := by rw [hcn, bl_canonB]; exact wf_lowL HWF.out
    have HE : Hid (inB (lowL (bl n)) (lowL (bl z)) = inB (bl cn) (bl cz)) := by rw [hcn, hcz]; rfl
    have HW0 := hid hw0
    clear hcn hcz hw0
    go_wp2
    go_loop [7] (fun t => ∃ i : Nat, i ≤ cn.size ∧ t = .int .i64 (i : Nat) ∧ Hid (wf ((bl cn).drop i) = true ∧ inB ((bl cn).drop i) (bl cz) = inB (bl cn) (bl cz))) (fun t => cn.size - (intOf t).toNat)
    case atStart => exact ⟨0, Nat.zero_le _, rfl, HW0.out, rfl⟩
    case round =>
      obtain ⟨i, hi, rfl, hr⟩ := hrel
      cases hb : ((cn.extract i cn.size).toList == cz.toList)
      · have HBF := hid hb
        by_cases hlt : i < cn.size
        · obtain ⟨h1, h2, h3⟩ := wf_parts hlt hr.out.1
          have H3 := hid h3
          clear h3
          go_wp2
          go_round
          case rel => exact ⟨i + 1 + (cn[i]'hlt).toNat, h2, by go_num, hid ⟨H3.out, (in_on hlt HBF.out).trans hr.out.2⟩⟩
          case measure => simp [intOf]; omega
        · go_wp2
          go_ret
          exact ⟨ret_bool (by rw [HE.out, ← hr.out.2, in_end HBF.out (by omega)]), HB.out⟩
      · have HBF := hid hb
        go_wp2
        go_ret
        exact ⟨ret_bool (by rw [HE.out, ← hr.out.2, in_hit HBF.out]), HB.out⟩

end Go.Proofs.Qxb6601878a
