/- The walk of FnNewNodeScript, its check of the nodes. -/
import Derived.Test.Qxb6601822aTailD
namespace Go.Proofs.Qxb6601822a
open Go.RowKit Go.Maps
attribute [local go_sem ↓] Go.wp_at_zero Go.wp_at_succ

set_option maxRecDepth 100000 in
set_option maxHeartbeats 4000000 in
theorem tailC (R len ch : Nat) (K A L : Nat → Int) (N : Nat → ByteArray) (p : Nat → Nat × Nat) (ln : Int) (a : Option Addr) (n cap : Nat) (m : Option Nat) (w wc : World) (hlen : len ≤ 4096)
    (hmade : Made w wc w.heap.size R (R + 1) (R + 2) len ch len K A L N p ln a n cap m)
    {u2 u3 u4 u5 u6 u7 u8 u11 u12 u13 u14 u15 u16 u17 u18 u19 u20 u21 u22 u23 u24 u25 u26 u27 u28 u29 u30 u31 u32 u33 u34 u35 u36 u37 u38 u39 u40 u41 u42 u43 u44 u45 u46 u47 u48 u49 u50 u51 u52 u53 u54 u55 u56 u57 u58 u59 u60 u61 u62 u63 u64 u65 u66 u67 u68 u69 u70 u71 u72 u73 u74 u75 u76 u77 u78 u79 u80 u81 u82 u83 u84 u85 u86 u87 u88 u89 u90 u91 u92 u93 u94 u95 u96 u97 u98 u99 u100 u101 u102 u103 u104 u105 u106 u107 u108 u109 u110 u111 u112 u113 u114 u115 u116 u117 u118 u119 u120 u121 u122 u123 u124 u125 u126 u127 u128 u129 u130 u131 u132 u133 u134 u135 u136 u137 u138 u139 u140 u141 u142 u143 u144 u145 u146 u147 u148 u149 u150 u151 u152 u153 u154 u155 u156 u157 u158 u159 u160 u161 u162 u163 u164 u165 u166 u167 u168 u169 u170 u171 u172 u173 u174 u175 u176 u177 u178 u179 u180 u181 u182 u183 u184 u185 u186 u187 u188 u189 u190 u191 u192 u193 u194 u195 u196 u197 u198 u199 u200 u201 u202 u203 u204 u205 u206 u207 u208 u209 u210 u211 u212 u213 u214 u215 u216 u217 u218 u219 u220 u221 u222 u223 u224 u225 u226 u227 u228 u229 u230 u231 u232 u233 u234 u235 u236 u237 u238 u239 u240 u241 u242 u243 u244 u245 u246 : Value} :
    Code.wp Try.prog (dropSeq 10 (Try.f7.body.getD .skip)) (bodyPost Try.prog Try.f7 fun e w' => e = .returned (.bool true) ∧ Below w.heap.size w w')
      ⟨#[.int .i64 (ch : Nat), .slice (some ⟨w.heap.size, 0, none⟩) len len, u2, u3, u4, u5, u6, u7, u8, .pointer (some ⟨R, 0, none⟩), .slice (some ⟨R + 1, 0, none⟩) len len, u11, u12, u13, u14, u15, u16, u17, u18, u19, u20, u21, u22, u23, u24, u25, u26, u27, u28, u29, u30, u31, u32, u33, u34, u35, u36, u37, u38, u39, u40, u41, u42, u43, u44, u45, u46, u47, u48, u49, u50, u51, u52, u53, u54, u55, u56, u57, u58, u59, u60, u61, u62, u63, u64, u65, u66, u67, u68, u69, u70, u71, u72, u73, u74, u75, u76, u77, u78, u79, u80, u81, u82, u83, u84, u85, u86, u87, u88, u89, u90, u91, u92, u93, u94, u95, u96, u97, u98, u99, u100, u101, u102, u103, u104, u105, u106, u107, u108, u109, u110, u111, u112, u113, u114, u115, u116, u117, u118, u119, u120, u121, u122, u123, u124, u125, u126, u127, u128, u129, u130, u131, u132, u133, u134, u135, u136, u137, u138, u139, u140, u141, u142, u143, u144, u145, u146, u147, u148, u149, u150, u151, u152, u153, u154, u155, u156, u157, u158, u159, u160, u161, u162, u163, u164, u165, u166, u167, u168, u169, u170, u171, u172, u173, u174, u175, u176, u177, u178, u179, u180, u181, u182, u183, u184, u185, u186, u187, u188, u189, u190, u191, u192, u193, u194, u195, u196, u197, u198, u199, u200, u201, u202, u203, u204, u205, u206, u207, u208, u209, u210, u211, u212, u213, u214, u215, u216, u217, u218, u219, u220, u221, u222, u223, u224, u225, u226, u227, u228, u229, u230, u231, u232, u233, u234, u235, u236, u237, u238, u239, u240, u241, u242, u243, u244, u245, u246], []⟩ wc := by
  have HM := hid hmade
  clear hmade
  conv => arg 2; whnf
  go_upto_block 6 with fail
  go_cut [] from 21 (fun wd => Made w wd w.heap.size R (R + 1) (R + 2) len ch len K A L N p ln a n cap m)
  case first =>
    go_wp2
    go_loopw [12] (fun s wr => ∃ k : Nat, k ≤ len ∧ s = .int .i64 (k : Nat) ∧ Made w wr w.heap.size R (R + 1) (R + 2) len ch len K A L N p ln a n cap m) (fun s _ => len - (intOf s).toNat)
    case atStart => exact ⟨0, Nat.zero_le _, rfl, HM.out⟩
    case round =>
      obtain ⟨k, hk, rfl, hmade⟩ := hrel
      have HM1 := hid hmade
      clear hmade
      by_cases hlt : k < len
      · obtain ⟨x0, x1, x2, x3, x4⟩ := steps_cells HM1.out.steps hlt
        have HN := hid HM1.out.nodes
        clear x4
        obtain ⟨g, o, hgo⟩ : ∃ g o, p k = (g, o) := ⟨_, _, rfl⟩
        obtain ⟨y, y0, y1, y2, y3, y4, y5⟩ := node_cells HM1.out hlt (Nat.le_refl _) hgo
        have HGO := hid hgo
        clear hgo
        have NE := hid (fun q j (hj : j < k) => node_ne (HM1.out.drewN q) hj hlt HGO.out)
        cases hne : (N k).toList.isEmpty
        all_goals
          first | rw [hne, if_pos rfl] at y2 | rw [hne, if_neg (by simp)] at y2
          go_upto_region 37 with fail
          go_quiet (fail)
          go_wp2
          go_loop [15] (fun s => ∃ j : Nat, j ≤ k ∧ s = .int .i64 (j : Nat)) (fun s => k - (intOf s).toNat)
          case atStart => exact ⟨0, Nat.zero_le _, rfl⟩
          case round =>
            obtain ⟨j, hj, rfl⟩ := hrel
            by_cases hjl : j < k
            · obtain ⟨g1, o1, z1, hz⟩ := NE.out nq j hjl
              rw [World.cell?_drewN] at z1
              go_wp2
              go_round
              case rel => exact ⟨j + 1, by omega, by go_num⟩
              case measure => simp [intOf]; omega
            · go_wp2
              go_roundw
              case rel => exact ⟨k + 1, by omega, by go_num, HM1.out.drewN nq⟩
              case measure => simp [intOf]; omega
      · go_wp2
        go_meet
        case rel => exact HM1.out
  case rest =>
    rename_i h
    exact h _ _ (tailD R len ch K A L N p ln a n cap m w _ hlen hcut)

end Go.Proofs.Qxb6601822a
