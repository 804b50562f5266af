/- FnClosestMatchesTwoPassModel, its two passes. -/
import Derived.Test.Qxb6601878aTwo
namespace Go.Proofs.Qxb6601878a
open Go.RowKit
attribute [local go_sem ↓] Go.wp_at_zero Go.wp_at_succ

/-- The answer's box, the texts. -/
structure Pw (w wd : World) (pg : Nat) (g : ByteArray) (ad : Option Addr) (zs : List ByteArray) : Prop where
  cg : wd.cell? ⟨pg, 0, none⟩ = some (.string g)
  zw : Zw wd ad zs
  bel : Below w.heap.size w wd

theorem Pw.on {w wd w' : World} {pg : Nat} {g : ByteArray} {ad : Option Addr} {zs : List ByteArray} (h : Pw w wd pg g ad zs) (hb : Below wd.heap.size wd w') : Pw w w' pg g ad zs :=
  ⟨(hb.cell (block_lt_of_cell h.cg)).trans h.cg, h.zw.below hb, h.bel.trans (hb.mono h.bel.size)⟩

theorem Pw.drew {w wd : World} {pg : Nat} {g : ByteArray} {ad : Option Addr} {zs : List ByteArray} (h : Pw w wd pg g ad zs) : Pw w wd.drew pg g ad zs := ⟨h.cg, ⟨h.zw.len, h.zw.small, h.zw.at_⟩, h.bel.drew⟩

theorem Found.first {n : ByteArray} {zs : List ByteArray} {g : ByteArray} (h : Found n zs g) {k : Nat} (hno : ∀ j, j < k → inN n (zs.getD j ⟨#[]⟩) = true → (zs.getD j ⟨#[]⟩).size ≠ g.size)
    (hin : inN n (zs.getD k ⟨#[]⟩) = true) (hs : (zs.getD k ⟨#[]⟩).size = g.size) : zs.getD k ⟨#[]⟩ = g := by
  obtain ⟨i, hi, e, ho⟩ := h.hit
  rcases Nat.lt_trichotomy i k with h1 | h1 | h1
  · exact absurd (by rw [e]) (hno i h1 (by rw [e]; exact h.yes))
  · rw [← h1]; exact e
  · exact absurd hs (ho k h1 hin)
theorem Found.some {n : ByteArray} {zs : List ByteArray} {g : ByteArray} (h : Found n zs g) (hno : ∀ j, j < zs.length → inN n (zs.getD j ⟨#[]⟩) = true → (zs.getD j ⟨#[]⟩).size ≠ g.size) : False := by
  obtain ⟨i, hi, e, ho⟩ := h.hit
  exact hno i hi (by rw [e]; exact h.yes) (by rw [e])

theorem none_next {n : ByteArray} {zs : List ByteArray} {g z : ByteArray} {k : Nat} (h : ∀ j, j < k → inN n (zs.getD j ⟨#[]⟩) = true → (zs.getD j ⟨#[]⟩).size ≠ g.size) (hz : zs.getD k ⟨#[]⟩ = z) (hs : inN n z = true → z.size ≠ g.size) :
    ∀ j, j < k + 1 → inN n (zs.getD j ⟨#[]⟩) = true → (zs.getD j ⟨#[]⟩).size ≠ g.size := fun j hj => by
  by_cases e : j = k
  · rw [e, hz]; exact hs
  · exact h j (by omega)

set_option maxRecDepth 100000 in
set_option maxHeartbeats 2000000 in
theorem passTail (pg cap : Nat) (ad : Option Addr) (n g : ByteArray) (ok : Bool) (zs : List ByteArray) (w wb : World) (hn : n.size ≤ 1048576) (hwf : wf (bl n) = true) (hl : zs.length ≤ 65536) (hz : ∀ i, i < zs.length → (zs.getD i ⟨#[]⟩).size ≤ 1048576)
    (hf : FoundIf n zs (g, ok)) (hp : Pw w wb pg g ad zs)
    {u2 u3 u4 u5 u6 u7 u8 u11 u12 u13 u14 u15 u16 u17 u18 u19 u20 u21 u22 u23 u24 u25 u26 u27 u28 u29 u30 u31 u32 u33 u34 u35 u36 u37 u38 u39 u40 u41 u42 u43 u44 u45 u46 u47 u48 u49 u50 u51 u52 u53 u54 u55 u56 u57 u58 u59 u60 u61 u62 u63 u64 u65 u66 u67 u68 u69 u70 u71 u72 u73 u74 u75 u76 u77 u78 u79 u80 u81 u82 u83 u84 u85 u86 u87 u88 u89 u90 u91 u92 u93 u94 u95 u96 u97 u98 u99 u100 u101 u102 u103 u104 u105 u106 u107 u108 u109 u110 u111 u112 u113 u114 u115 u116 u117 u118 u119 u120 u121 u122 u123 u124 u125 u126 u127 u128 u129 u130 u131 u132 u133 u134 u135 u136 u137 u138 u139 : Value} :
    Code.wp Try.prog (dropSeq 12 (Try.f7.body.getD .skip)) (bodyPost Try.prog Try.f7 fun e w' => e = .returned (.bool true) ∧ Below w.heap.size w w')
      ⟨#[.string n, .slice ad zs.length cap, u2, u3, u4, u5, u6, u7, u8, .pointer (some ⟨pg, 0, none⟩), .bool ok, u11, u12, u13, u14, u15, u16, u17, u18, u19, u20, u21, u22, u23, u24, u25, u26, u27, u28, u29, u30, u31, u32, u33, u34, u35, u36, u37, u38, u39, u40, u41, u42, u43, u44, u45, u46, u47, u48, u49, u50, u51, u52, u53, u54, u55, u56, u57, u58, u59, u60, u61, u62, u63, u64, u65, u66, u67, u68, u69, u70, u71, u72, u73, u74, u75, u76, u77, u78, u79, u80, u81, u82, u83, u84, u85, u86, u87, u88, u89, u90, u91, u92, u93, u94, u95, u96, u97, u98, u99, u100, u101, u102, u103, u104, u105, u106, u107, u108, u109, u110, u111, u112, u113, u114, u115, u116, u117, u118, u119, u120, u121, u122, u123, u124, u125, u126, u127, u128, u129, u130, u131, u132, u133, u134, u135, u136, u137, u138, u139], []⟩ wb := by
  have HWF := hid hwf
  have HZ := hid hz
  have HF := hid hf
  have HP := hid hp
  clear hwf hz hf hp
  conv => arg 2; whnf
  go_upto_block 4 with fail
  go_cut [11, 12] from 14 (fun s11 s12 wd => s11 = .int .i64 (mx n zs) ∧ Pw w wd pg g ad zs)
  case first =>
    go_wp2
    go_loopw [11, 12] (fun s t wr => ∃ k : Nat, k ≤ zs.length ∧ s = .int .i64 (mx n (zs.take k)) ∧ t = .int .i64 (k : Nat) ∧ Pw w wr pg g ad zs) (fun _ t _ => zs.length - (intOf t).toNat)
    case atStart => exact ⟨0, Nat.zero_le _, rfl, rfl, HP.out⟩
    case round =>
      obtain ⟨k, hk, rfl, rfl, hpr⟩ := hrel
      have HPR := hid hpr
      clear hpr
      by_cases hlt : k < zs.length
      · have STEP := hid (mx_take n zs k hlt)
        generalize mx n (zs.take k) = m at *
        obtain ⟨b, off, z, rfl, h1, hzz, -⟩ := HPR.out.zw.get hlt
        have hsz := HZ.out k hlt
        rw [hzz] at hsz STEP
        clear hzz
        go_wp2_with fail
        refine (inM_any n z _ hn hsz HWF.out).mono ?_
        rintro e w1 ⟨rfl, hb1⟩
        have HP1 := hid (HPR.out.on hb1)
        have hc1 := (hb1.cell (block_lt_of_cell h1)).trans h1
        clear hb1 h1
        cases ht : inN n z
        · have HT := hid ht
          go_wp2
          go_roundw
          case rel => exact ⟨k + 1, by omega, by rw [STEP.out, mstep_no HT.out], by go_num, HP1.out⟩
          case measure => simp [intOf]; omega
        · have HT := hid ht
          by_cases hs : m < (z.size : Int)
          · have HS := hid hs
            go_wp2
            go_roundw
            case rel => exact ⟨k + 1, by omega, by rw [STEP.out, mstep_up HT.out HS.out], by go_num, HP1.out⟩
            case measure => simp [intOf]; omega
          · have ds : decide (m < (z.size : Int)) = false := by simpa using hs
            have HS := hid hs
            clear hs
            go_wp2
            go_roundw
            case rel => exact ⟨k + 1, by omega, by rw [STEP.out, mstep_stay (by have := HS.out; omega)], by go_num, HP1.out⟩
            case measure => simp [intOf]; omega
      · obtain rfl : k = zs.length := by omega
        rw [List.take_length]
        go_wp2
        go_meet
        case rel => exact ⟨rfl, HPR.out⟩
  case rest =>
    obtain ⟨rfl, hp2⟩ := hcut
    have HP2 := hid hp2
    have cg := hp2.cg
    clear hp2 HP
    cases ok
    · obtain ⟨hg, hm, -⟩ := HF.out
      have hg : g = ⟨#[]⟩ := hg
      subst hg
      rw [hm]
      clear hm HF
      go_wp2_with (go_at_call 22; refine (wire_any _ _).mono ?_; rintro e w1 ⟨rfl, hb1⟩; have HP3 := hid (HP2.out.on hb1); clear hb1)
      go_ret
      exact ⟨rfl, HP3.out.bel⟩
    · have FD : Hid (Found n zs g) := HF
      have hm := FD.out.len
      rw [hm]
      clear hm HF
      go_wp2
      go_loopw [13] (fun t wr => ∃ k : Nat, k ≤ zs.length ∧ t = .int .i64 (k : Nat) ∧ Hid (∀ j, j < k → inN n (zs.getD j ⟨#[]⟩) = true → (zs.getD j ⟨#[]⟩).size ≠ g.size) ∧ Pw w wr pg g ad zs) (fun t _ => zs.length - (intOf t).toNat)
      case atStart => exact ⟨0, Nat.zero_le _, rfl, hid (fun j hj => absurd hj (Nat.not_lt_zero _)), HP2.out⟩
      case round =>
        obtain ⟨k, hk, rfl, hno, hpr⟩ := hrel
        have HPR := hid hpr
        clear hpr
        by_cases hlt : k < zs.length
        · obtain ⟨b, off, z, rfl, h1, hzz, -⟩ := HPR.out.zw.get hlt
          have hsz := HZ.out k hlt
          rw [hzz] at hsz
          have HZZ := hid hzz
          clear hzz
          by_cases hq : z.size = g.size
          · have HQ := hid hq
            have hqi : (z.size : Int) = (g.size : Int) := by omega
            clear hq
            go_wp2_with fail
            refine (inM_any n z _ hn hsz HWF.out).mono ?_
            rintro e w1 ⟨rfl, hb1⟩
            have HP1 := hid (HPR.out.on hb1)
            have hc1 := (hb1.cell (block_lt_of_cell h1)).trans h1
            have cg1 := HP1.out.cg
            clear hb1 h1
            cases ht : inN n z
            · have HT := hid ht
              go_wp2
              go_roundw
              case rel => exact ⟨k + 1, by omega, by go_num, hid (none_next hno.out HZZ.out (fun h => by rw [HT.out] at h; cases h)), HP1.out⟩
              case measure => simp [intOf]; omega
            · obtain rfl : z = g := by
                rw [← HZZ.out]
                exact FD.out.first hno.out (by rw [HZZ.out]; exact ht) (by rw [HZZ.out]; exact HQ.out)
              clear hqi
              go_wp2_with fail
              go_region_held3 (fun w' => w'.cell? ⟨pg, 0, none⟩ = some (.string z) ∧ w'.cell? ⟨b, off + k, none⟩ = some (.string z)) (go_keep) (first | (go_at_call 22; refine (wire_any _ _).mono ?_; rintro e w2 ⟨rfl, hb2⟩; have HP3 := hid (HP1.out.drew.on hb2); have cg2 := HP3.out.cg; have hc2 := (hb2.cell (block_lt_of_cell hc1)).trans hc1; clear hb2))
              go_wp2_with fail
              go_ret
              exact ⟨rfl, HP3.out.bel⟩
          · have HQ := hid hq
            have hqi : ¬ (z.size : Int) = (g.size : Int) := by omega
            clear hq
            go_wp2
            go_roundw
            case rel => exact ⟨k + 1, by omega, by go_num, hid (none_next hno.out HZZ.out (fun _ => HQ.out)), HPR.out⟩
            case measure => simp [intOf]; omega
        · obtain rfl : k = zs.length := by omega
          exact (FD.out.some hno.out).elim

end Go.Proofs.Qxb6601878a
