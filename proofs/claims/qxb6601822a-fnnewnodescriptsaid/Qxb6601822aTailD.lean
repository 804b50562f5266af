/- The walk of FnNewNodeScript, its last part: the anchors counted and looked up. -/
import Derived.Test.Qxb6601822aEnd
import Derived.Deep.CutBlock
import Derived.Deep.DrawnRows
namespace Go.Proofs.Qxb6601822a
open Go.RowKit Go.Maps
attribute [local go_sem ↓] Go.wp_at_zero Go.wp_at_succ

/-- What is left of a sequence behind its first n statements. -/
def dropSeq : Nat → Code → Code
  | 0, c => c
  | n + 1, .seq _ b => dropSeq n b
  | _ + 1, c => c

theorem later_step {N : Nat → ByteArray} {k j : Nat} (h : ∀ i, k < i → i < j → (N i).toList ≠ (N k).toList) (hb : ((N j).toList == (N k).toList) = false) : Hid (∀ i, k < i → i < j + 1 → (N i).toList ≠ (N k).toList) := fun i h1 h2 => by
  by_cases e : i = j
  · subst e
    simpa using hb
  · exact h i h1 (by omega)

theorem ret_true {a : Bool} (h : a = true) : Ending.returned (.bool a) = .returned (.bool true) := by rw [h]

set_option maxRecDepth 100000 in
set_option maxHeartbeats 4000000 in
theorem tailD (R len ch : Nat) (K A L : Nat → Int) (N : Nat → ByteArray) (p : Nat → Nat × Nat) (ln : Int) (a : Option Addr) (n cap : Nat) (m : Option Nat) (w wc : World) (hlen : len ≤ 4096)
    (hmade : Made w wc w.heap.size R (R + 1) (R + 2) len ch len K A L N p ln a n cap m)
    {u2 u3 u4 u5 u6 u7 u8 u11 u12 u13 u14 u15 u16 u17 u18 u19 u20 u21 u22 u23 u24 u25 u26 u27 u28 u29 u30 u31 u32 u33 u34 u35 u36 u37 u38 u39 u40 u41 u42 u43 u44 u45 u46 u47 u48 u49 u50 u51 u52 u53 u54 u55 u56 u57 u58 u59 u60 u61 u62 u63 u64 u65 u66 u67 u68 u69 u70 u71 u72 u73 u74 u75 u76 u77 u78 u79 u80 u81 u82 u83 u84 u85 u86 u87 u88 u89 u90 u91 u92 u93 u94 u95 u96 u97 u98 u99 u100 u101 u102 u103 u104 u105 u106 u107 u108 u109 u110 u111 u112 u113 u114 u115 u116 u117 u118 u119 u120 u121 u122 u123 u124 u125 u126 u127 u128 u129 u130 u131 u132 u133 u134 u135 u136 u137 u138 u139 u140 u141 u142 u143 u144 u145 u146 u147 u148 u149 u150 u151 u152 u153 u154 u155 u156 u157 u158 u159 u160 u161 u162 u163 u164 u165 u166 u167 u168 u169 u170 u171 u172 u173 u174 u175 u176 u177 u178 u179 u180 u181 u182 u183 u184 u185 u186 u187 u188 u189 u190 u191 u192 u193 u194 u195 u196 u197 u198 u199 u200 u201 u202 u203 u204 u205 u206 u207 u208 u209 u210 u211 u212 u213 u214 u215 u216 u217 u218 u219 u220 u221 u222 u223 u224 u225 u226 u227 u228 u229 u230 u231 u232 u233 u234 u235 u236 u237 u238 u239 u240 u241 u242 u243 u244 u245 u246 : Value} :
    Code.wp Try.prog (dropSeq 11 (Try.f7.body.getD .skip)) (bodyPost Try.prog Try.f7 fun e w' => e = .returned (.bool true) ∧ Below w.heap.size w w')
      ⟨#[.int .i64 (ch : Nat), .slice (some ⟨w.heap.size, 0, none⟩) len len, u2, u3, u4, u5, u6, u7, u8, .pointer (some ⟨R, 0, none⟩), .slice (some ⟨R + 1, 0, none⟩) len len, u11, u12, u13, u14, u15, u16, u17, u18, u19, u20, u21, u22, u23, u24, u25, u26, u27, u28, u29, u30, u31, u32, u33, u34, u35, u36, u37, u38, u39, u40, u41, u42, u43, u44, u45, u46, u47, u48, u49, u50, u51, u52, u53, u54, u55, u56, u57, u58, u59, u60, u61, u62, u63, u64, u65, u66, u67, u68, u69, u70, u71, u72, u73, u74, u75, u76, u77, u78, u79, u80, u81, u82, u83, u84, u85, u86, u87, u88, u89, u90, u91, u92, u93, u94, u95, u96, u97, u98, u99, u100, u101, u102, u103, u104, u105, u106, u107, u108, u109, u110, u111, u112, u113, u114, u115, u116, u117, u118, u119, u120, u121, u122, u123, u124, u125, u126, u127, u128, u129, u130, u131, u132, u133, u134, u135, u136, u137, u138, u139, u140, u141, u142, u143, u144, u145, u146, u147, u148, u149, u150, u151, u152, u153, u154, u155, u156, u157, u158, u159, u160, u161, u162, u163, u164, u165, u166, u167, u168, u169, u170, u171, u172, u173, u174, u175, u176, u177, u178, u179, u180, u181, u182, u183, u184, u185, u186, u187, u188, u189, u190, u191, u192, u193, u194, u195, u196, u197, u198, u199, u200, u201, u202, u203, u204, u205, u206, u207, u208, u209, u210, u211, u212, u213, u214, u215, u216, u217, u218, u219, u220, u221, u222, u223, u224, u225, u226, u227, u228, u229, u230, u231, u232, u233, u234, u235, u236, u237, u238, u239, u240, u241, u242, u243, u244, u245, u246], []⟩ wc := by
  have HM2 := hid hmade
  clear hmade
  conv => arg 2; whnf
  go_upto_block 10 with fail
  go_cut [16] from 21 (fun s16 wd => s16 = .int .i64 (cntL (names N len) : Nat) ∧ Made w wd w.heap.size R (R + 1) (R + 2) len ch len K A L N p ln a n cap m)
  case first =>
    go_wp2
    go_loopw [16, 17] (fun s t wr => ∃ k c : Nat, k ≤ len ∧ s = .int .i64 (c : Nat) ∧ t = .int .i64 (k : Nat) ∧ Counted N len k c ∧ Made w wr w.heap.size R (R + 1) (R + 2) len ch len K A L N p ln a n cap m) (fun _ t _ => len - (intOf t).toNat)
    case atStart => exact ⟨0, 0, Nat.zero_le _, rfl, rfl, counted_start N len, HM2.out⟩
    case round =>
      obtain ⟨k, c, hk, rfl, rfl, hcnt, hmade⟩ := hrel
      have hcl := counted_le hcnt
      have HC := hid hcnt
      have HM3 := hid hmade
      clear hcnt hmade
      by_cases hlt : k < len
      · obtain ⟨x0, x1, x2, x3, x4⟩ := steps_cells HM3.out.steps hlt
        clear x0 x2 x3 x4
        cases hne : (N k).toList.isEmpty
        · obtain ⟨g, o, hgo⟩ : ∃ g o, p k = (g, o) := ⟨_, _, rfl⟩
          have y := (node_cells HM3.out hlt (Nat.le_refl _) hgo).1
          have HGO := hid hgo
          clear hgo
          go_wp2
          go_loop [19, 20] (fun s t => ∃ j : Nat, k < j ∧ j ≤ len ∧ s = .bool true ∧ t = .int .i64 (j : Nat) ∧ Hid (∀ i, k < i → i < j → (N i).toList ≠ (N k).toList)) (fun _ t => len - (intOf t).toNat)
          case atStart => exact ⟨k + 1, by omega, by omega, rfl, by go_num, fun i h1 h2 => absurd h1 (by omega)⟩
          case round =>
            obtain ⟨j, hj1, hj2, rfl, rfl, hall⟩ := hrel
            by_cases hjl : j < len
            · have z1 := (steps_cells HM3.out.steps hjl).2.1
              cases hb : ((N j).toList == (N k).toList)
              · have HB2 := hid hb
                go_wp2
                go_round
                case rel => exact ⟨j + 1, by omega, by omega, rfl, by go_num, later_step hall.out HB2.out⟩
                case measure => simp [intOf]; omega
              · have HB2 := hid hb
                go_wp2
                go_roundw
                case rel => exact ⟨k + 1, c, by omega, rfl, by go_num, counted_again HC.out hlt hj1 hjl (eq_of_beq HB2.out), HM3.out⟩
                case measure => simp [intOf]; omega
            · have hlast : ∀ i, k < i → i < len → (N i).toList ≠ (N k).toList := fun i h1 h2 => hall.out i h1 (by omega)
              have HLA := hid hlast
              clear hlast
              have hq := neq_same
              go_wp2
              go_quiet ((go_at_call 20; exact Calls.quiet_of_same (anchor_made (HM3.out.drewN _) hlt hne HLA.out HGO.out)))
              go_wp2
              go_roundw
              case rel => exact ⟨k + 1, c + 1, by omega, by go_num, by go_num, counted_last HC.out hlt hne HLA.out, HM3.out.drewN nq⟩
              case measure => simp [intOf]; omega
        · go_wp2
          go_roundw
          case rel => exact ⟨k + 1, c, by omega, rfl, by go_num, counted_empty HC.out hlt hne, HM3.out⟩
          case measure => simp [intOf]; omega
      · go_wp2
        go_meet
        case rel => exact ⟨by rw [← counted_end HC.out (by omega)], HM3.out⟩
  case rest =>
    obtain ⟨rfl, hmade⟩ := hcut
    have HM4 := hid hmade
    clear hmade HM2
    obtain ⟨c, hc⟩ : ∃ c, c = cntL (names N len) := ⟨_, rfl⟩
    rw [← hc]
    have HC := hid hc
    clear hc
    go_wp2_with fail
    refine (count_made HM4.out c HC.out).mono ?_
    rintro e w' ⟨rfl, rfl⟩
    go_wp2_with fail
    refine (nil_made HM4.out c HC.out).mono ?_
    rintro e w' ⟨rfl, rfl⟩
    go_wp2
    go_ret
    exact ⟨ret_true (by simp), HM4.out.bel⟩


end Go.Proofs.Qxb6601822a
