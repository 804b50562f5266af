/- The walk of FnNewNodeScript, where the nodes are made. -/
import Derived.Test.Qxb6601822aTailC
namespace Go.Proofs.Qxb6601822a
open Go.RowKit Go.Maps
attribute [local go_sem ↓] Go.wp_at_zero Go.wp_at_succ

theorem rd_row {w : World} {R : Nat} {ln ch : Int} {v : Value} {m : Option Nat} (h : Rd w R ln ch v m) : ∃ f, w.rowIs R 49 11 f := let ⟨f, h, _⟩ := h.row; ⟨f, h⟩

/-- Behind the loop that makes the nodes. -/
def AllMade (w wd : World) (R len ch : Nat) (K A L : Nat → Int) (N : Nat → ByteArray) : Prop :=
  ∃ p ln a n cap m, Made w wd w.heap.size R (R + 1) (R + 2) len ch len K A L N p ln a n cap m

set_option maxRecDepth 100000 in
set_option maxHeartbeats 4000000 in
theorem tailB (len ch : Nat) (K A L : Nat → Int) (N : Nat → ByteArray) (w wc : World) (hlen : len ≤ 4096) (hch : ch ≤ 65536)
    (hst : StepsAt wc w.heap.size 0 len K A L N) (hbel : Below w.heap.size w wc) (hsz : w.heap.size < wc.heap.size)
    {u2 u3 u4 u5 u6 u7 u8 u9 u10 u11 u12 u13 u14 u15 u16 u17 u18 u19 u20 u21 u22 u23 u24 u25 u26 u27 u28 u29 u30 u31 u32 u33 u34 u35 u36 u37 u38 u39 u40 u41 u42 u43 u44 u45 u46 u47 u48 u49 u50 u51 u52 u53 u54 u55 u56 u57 u58 u59 u60 u61 u62 u63 u64 u65 u66 u67 u68 u69 u70 u71 u72 u73 u74 u75 u76 u77 u78 u79 u80 u81 u82 u83 u84 u85 u86 u87 u88 u89 u90 u91 u92 u93 u94 u95 u96 u97 u98 u99 u100 u101 u102 u103 u104 u105 u106 u107 u108 u109 u110 u111 u112 u113 u114 u115 u116 u117 u118 u119 u120 u121 u122 u123 u124 u125 u126 u127 u128 u129 u130 u131 u132 u133 u134 u135 u136 u137 u138 u139 u140 u141 u142 u143 u144 u145 u146 u147 u148 u149 u150 u151 u152 u153 u154 u155 u156 u157 u158 u159 u160 u161 u162 u163 u164 u165 u166 u167 u168 u169 u170 u171 u172 u173 u174 u175 u176 u177 u178 u179 u180 u181 u182 u183 u184 u185 u186 u187 u188 u189 u190 u191 u192 u193 u194 u195 u196 u197 u198 u199 u200 u201 u202 u203 u204 u205 u206 u207 u208 u209 u210 u211 u212 u213 u214 u215 u216 u217 u218 u219 u220 u221 u222 u223 u224 u225 u226 u227 u228 u229 u230 u231 u232 u233 u234 u235 u236 u237 u238 u239 u240 u241 u242 u243 u244 u245 u246 : Value} :
    Code.wp Try.prog (dropSeq 7 (Try.f7.body.getD .skip)) (bodyPost Try.prog Try.f7 fun e w' => e = .returned (.bool true) ∧ Below w.heap.size w w')
      ⟨#[.int .i64 (ch : Nat), .slice (some ⟨w.heap.size, 0, none⟩) len len, u2, u3, u4, u5, u6, u7, u8, u9, u10, u11, u12, u13, u14, u15, u16, u17, u18, u19, u20, u21, u22, u23, u24, u25, u26, u27, u28, u29, u30, u31, u32, u33, u34, u35, u36, u37, u38, u39, u40, u41, u42, u43, u44, u45, u46, u47, u48, u49, u50, u51, u52, u53, u54, u55, u56, u57, u58, u59, u60, u61, u62, u63, u64, u65, u66, u67, u68, u69, u70, u71, u72, u73, u74, u75, u76, u77, u78, u79, u80, u81, u82, u83, u84, u85, u86, u87, u88, u89, u90, u91, u92, u93, u94, u95, u96, u97, u98, u99, u100, u101, u102, u103, u104, u105, u106, u107, u108, u109, u110, u111, u112, u113, u114, u115, u116, u117, u118, u119, u120, u121, u122, u123, u124, u125, u126, u127, u128, u129, u130, u131, u132, u133, u134, u135, u136, u137, u138, u139, u140, u141, u142, u143, u144, u145, u146, u147, u148, u149, u150, u151, u152, u153, u154, u155, u156, u157, u158, u159, u160, u161, u162, u163, u164, u165, u166, u167, u168, u169, u170, u171, u172, u173, u174, u175, u176, u177, u178, u179, u180, u181, u182, u183, u184, u185, u186, u187, u188, u189, u190, u191, u192, u193, u194, u195, u196, u197, u198, u199, u200, u201, u202, u203, u204, u205, u206, u207, u208, u209, u210, u211, u212, u213, u214, u215, u216, u217, u218, u219, u220, u221, u222, u223, u224, u225, u226, u227, u228, u229, u230, u231, u232, u233, u234, u235, u236, u237, u238, u239, u240, u241, u242, u243, u244, u245, u246], []⟩ wc := by
  have HST := hid hst
  have HB := hid hbel
  clear hst hbel
  have hmk := run_make_row' (P := Try.prog) 36 38 (.pointer none) 8 Try.underlying36 info38 rfl .i64 .i64 len (by omega) (by omega)
  conv => arg 2; whnf
  go_upto_block 4 with (go_at_call 10; refine (newReader _ _).mono ?_; rintro e w' ⟨rfl, rfl⟩)
  have LAY := hid (lay_start hsz)
  have START := hid (made_start (ch := ch) HST.out HB.out hsz (fun _ => (0, 0)))
  clear hmk
  obtain ⟨R, hR⟩ : ∃ R, R = wc.heap.size := ⟨_, rfl⟩
  rw [← hR]
  rw [← hR] at LAY START hsz
  clear hR
  go_cut [] from 21 (fun wd => AllMade w wd R len ch K A L N)
  case first =>
    go_wp2
    go_loopw [11] (fun s wr => ∃ k p ln a n cap m, k ≤ len ∧ s = .int .i64 (k : Nat) ∧ Made w wr w.heap.size R (R + 1) (R + 2) len ch k K A L N p ln a n cap m) (fun s _ => len - (intOf s).toNat)
    case atStart => exact ⟨0, _, _, _, _, _, _, Nat.zero_le _, rfl, START.out⟩
    case round =>
      obtain ⟨k, p, ln, a, n, cap, m, hk, rfl, hmade⟩ := hrel
      have HM := hid hmade
      clear hmade
      by_cases hlt : k < len
      · obtain ⟨x0, x1, x2, x3, x4⟩ := steps_cells HM.out.steps hlt
        obtain ⟨f, hf⟩ := rd_row HM.out.rd
        have HF := hid hf
        have X4 := hid x4
        clear hf x4
        go_wp2_with fail
        refine (setLine R f _ wr HF.out).mono ?_
        rintro e w1 ⟨rfl, hw1⟩
        have M1 : Hid (Made w w1 w.heap.size R (R + 1) (R + 2) len ch k K A L N p (L k) a n cap m) := by rw [← hw1]; exact HM.out.setLine LAY.out _
        clear hw1 x0 x1 x2 x3
        obtain ⟨x0, x1, x2, x3, _⟩ := steps_cells M1.out.steps hlt
        go_wp2_with fail
        obtain ⟨xs, hxs⟩ := M1.out.own
        have OX := hid hxs
        clear hxs
        have hn4 : n ≤ 4096 := by have := M1.out.nk; omega
        go_region_with (go_at_call 19; refine (zzNewNode R (R + 2) n ch k _ (L k) (K k) (A k) (N k) a cap xs m _ (by omega) (by exact M1.out.hb) (by exact M1.out.rd.drew) (by exact OX.out) (by exact M1.out.map) hn4 hch (by omega) X4.out).mono ?_; rintro e w2 ⟨g, n', cap', m', rfl, hA, hme, hmn⟩; have HA := hid hA; have HME := hid hme; have HMN := hid hmn; have rn := M1.out.drew.row_after LAY.out hA; have cn := rn.cell hlt; have fn := rn.frozen k; clear hA hme hmn rn)
        all_goals
          go_wp2
          go_roundw
          case rel => exact ⟨k + 1, _, L k, _, _, _, _, by omega, by go_num, Made.step M1.out.drew LAY.out hlt HA.out HME.out HMN.out⟩
          case measure => simp [intOf]; omega
      · go_wp2
        go_meet
        case rel =>
          obtain rfl : k = len := by omega
          exact ⟨p, ln, a, n, cap, m, HM.out⟩
  case rest =>
    rename_i h
    obtain ⟨p, ln, a, n, cap, m, hmade⟩ := hcut
    exact h _ _ (tailC R len ch K A L N p ln a n cap m w _ hlen hmade)

end Go.Proofs.Qxb6601822a
