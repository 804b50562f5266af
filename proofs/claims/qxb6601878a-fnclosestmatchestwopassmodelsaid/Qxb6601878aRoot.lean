/- FnClosestDropAndRoot, its last part: the root appended. -/
import Derived.Test.Qxb6601878aZones
namespace Go.Proofs.Qxb6601878a
open Go.RowKit
attribute [local go_sem ↓] Go.wp_at_zero Go.wp_at_succ

/-- The first k of the zones copied behind one another, the rest empty. -/
def rootMid (zs : List ByteArray) (k i : Nat) : Value := .string (if i < k then zs.getD i ⟨#[]⟩ else ⟨#[]⟩)

theorem root_put {w : World} {zs : List ByteArray} {k B m : Nat} (h : w.rowIs B 24 m (rootMid zs k)) : (w.setCell ⟨B, k, none⟩ (.string (zs.getD k ⟨#[]⟩))).rowIs B 24 m (rootMid zs (k + 1)) := by
  refine (h.set k _).congr fun i _ => ?_
  unfold rootMid
  by_cases e : i = k
  · subst e; rw [if_pos rfl, if_pos (by omega)]
  · rw [if_neg e]
    by_cases l : i < k
    · rw [if_pos l, if_pos (by omega)]
    · rw [if_neg l, if_neg (by omega)]

theorem root_cells {w : World} {zs : List ByteArray} {B : Nat} (h : w.rowIs B 24 (zs.length + 1) (rootMid zs zs.length)) : ∀ i, i < (zs ++ [(⟨#[]⟩ : ByteArray)]).length → w.cell? ⟨B, 0 + i, none⟩ = some (.string ((zs ++ [(⟨#[]⟩ : ByteArray)]).getD i ⟨#[]⟩)) := fun i hi => by
  rw [List.length_append, List.length_singleton] at hi
  rw [Nat.zero_add, h.cell hi]
  unfold rootMid
  by_cases l : i < zs.length
  · rw [if_pos l, List.getD, List.getD, List.getElem?_append_left l]
  · rw [if_neg l]
    obtain rfl : i = zs.length := by omega
    rw [List.getD, List.getElem?_append_right (Nat.le_refl _), Nat.sub_self]
    rfl

theorem root_last {w : World} {zs : List ByteArray} {B : Nat} (h : w.rowIs B 24 (zs.length + 1) (rootMid zs zs.length)) : (w.setCell ⟨B, zs.length, none⟩ (.string ⟨#[]⟩)).rowIs B 24 (zs.length + 1) (rootMid zs zs.length) := by
  refine (h.set _ _).congr fun i _ => ?_
  unfold rootMid
  by_cases e : i = zs.length
  · subst e; rw [if_pos rfl, if_neg (by omega)]
  · rw [if_neg e]

theorem all_small {zs : List ByteArray} (h : ∀ i, i < zs.length → (zs.getD i ⟨#[]⟩).size ≤ 1048576) : ∀ i, i < (zs ++ [(⟨#[]⟩ : ByteArray)]).length → ((zs ++ [(⟨#[]⟩ : ByteArray)]).getD i ⟨#[]⟩).size ≤ 1048576 := fun i hi => by
  rw [List.length_append, List.length_singleton] at hi
  by_cases l : i < zs.length
  · rw [List.getD, List.getElem?_append_left l]; exact h i l
  · obtain rfl : i = zs.length := by omega
    rw [List.getD, List.getElem?_append_right (Nat.le_refl _), Nat.sub_self]
    exact Nat.zero_le _

theorem Tg.drew {w0 wd : World} {pn ZB pg : Nat} {n g : ByteArray} {zs : List ByteArray} (h : Tg w0 wd pn ZB pg n zs g) : Tg w0 wd.drew pn ZB pg n zs g :=
  ⟨⟨h.tz.cn, h.tz.row.of_block rfl, h.tz.bel.drew⟩, h.cg⟩

theorem below_box {w w' : World} {b : Obj} (h : w.alloc b = w') : Below w.heap.size w w' := by rw [← h]; exact (Below.refl _ _).alloc (Nat.le_refl _) _

set_option maxRecDepth 100000 in
set_option maxHeartbeats 2000000 in
theorem rootTail (pn ZB pg : Nat) (n g : ByteArray) (ok : Bool) (zs : List ByteArray) (w wb : World) (hn : n.size ≤ 1048576) (hwf : wf (bl n) = true) (hl : zs.length ≤ 65536) (hz : ∀ i, i < zs.length → (zs.getD i ⟨#[]⟩).size ≤ 1048576)
    (hclo : clo n zs = (g, ok)) (htg : Tg w wb pn ZB pg n zs g)
    {u0 u1 u2 u3 u4 u5 u6 u9 u12 u13 u14 u15 u16 u17 u18 u19 u20 u21 u22 u23 u24 u25 u26 u27 u28 u29 u30 u31 u32 u33 u34 u35 u36 u37 u38 u39 u40 u41 u42 u43 u44 u45 u46 u47 u48 u49 u50 u51 u52 u53 u54 u55 u56 u57 u58 u59 u60 u61 u62 u63 u64 u65 u66 u67 u68 u69 u70 u71 u72 u73 u74 u75 u76 u77 u78 u79 u80 u81 u82 u83 u84 u85 u86 u87 u88 u89 u90 u91 u92 u93 u94 u95 u96 u97 u98 u99 u100 u101 u102 u103 u104 u105 u106 u107 u108 u109 u110 u111 u112 u113 u114 u115 u116 u117 u118 u119 u120 u121 u122 u123 u124 u125 u126 u127 u128 u129 u130 u131 u132 u133 u134 u135 u136 u137 u138 u139 u140 u141 u142 u143 u144 u145 u146 u147 u148 u149 u150 u151 u152 u153 : Value} :
    Code.wp Try.prog (dropSeq 17 (Try.f8.body.getD .skip)) (bodyPost Try.prog Try.f8 fun e w' => e = .returned (.bool true) ∧ Below w.heap.size w w')
      ⟨#[u0, u1, u2, u3, u4, u5, u6, .pointer (some ⟨pn, 0, none⟩), .slice (some ⟨ZB, 0, none⟩) zs.length zs.length, u9, .pointer (some ⟨pg, 0, none⟩), .bool ok, u12, u13, u14, u15, u16, u17, u18, u19, u20, u21, u22, u23, u24, u25, u26, u27, u28, u29, u30, u31, u32, u33, u34, u35, u36, u37, u38, u39, u40, u41, u42, u43, u44, u45, u46, u47, u48, u49, u50, u51, u52, u53, u54, u55, u56, u57, u58, u59, u60, u61, u62, u63, u64, u65, u66, u67, u68, u69, u70, u71, u72, u73, u74, u75, u76, u77, u78, u79, u80, u81, u82, u83, u84, u85, u86, u87, u88, u89, u90, u91, u92, u93, u94, u95, u96, u97, u98, u99, u100, u101, u102, u103, u104, u105, u106, u107, u108, u109, u110, u111, u112, u113, u114, u115, u116, u117, u118, u119, u120, u121, u122, u123, u124, u125, u126, u127, u128, u129, u130, u131, u132, u133, u134, u135, u136, u137, u138, u139, u140, u141, u142, u143, u144, u145, u146, u147, u148, u149, u150, u151, u152, u153], []⟩ wb := by
  have HWF := hid hwf
  have HZ := hid (all_small hz)
  have HCLO := hid (clo_root n zs)
  rw [hclo] at HCLO
  have TG := hid htg
  clear hwf hz hclo htg
  have hmk := make33 wb (zs.length + 1) (by omega)
  rw [show ((zs.length + 1 : Nat) : Int) = (zs.length : Int) + 1 by omega] at hmk
  conv => arg 2; whnf
  go_upto_block 6 with fail
  clear hmk
  go_cut [] from 20 (fun wd => wd.rowIs wb.heap.size 24 (zs.length + 1) (rootMid zs zs.length) ∧ Below wb.heap.size wb wd)
  case first =>
    go_wp2
    go_loopw [17] (fun t wr => ∃ k : Nat, k ≤ zs.length ∧ t = .int .i64 (k : Nat) ∧ wr.rowIs wb.heap.size 24 (zs.length + 1) (rootMid zs k) ∧ Below wb.heap.size wb wr) (fun t _ => zs.length - (intOf t).toNat)
    case atStart => exact ⟨0, Nat.zero_le _, rfl, (World.rowIs_made wb (.string ⟨#[]⟩) (zs.length + 1) 24).congr (fun i _ => by simp [rootMid]), (Below.refl _ _).alloc (Nat.le_refl _) _⟩
    case round =>
      obtain ⟨k, hk, rfl, hrow, hbel⟩ := hrel
      have HR := hid hrow
      have HB := hid hbel
      by_cases hlt : k < zs.length
      · have hcd := hrow.cell (i := k) (by omega)
        unfold rootMid at hcd
        have hfr := hrow.frozen k
        obtain ⟨z, hzd⟩ : ∃ z, z = zs.getD k ⟨#[]⟩ := ⟨_, rfl⟩
        have hcz : wr.cell? ⟨ZB, k, none⟩ = some (.string z) := by rw [hzd]; exact ((TG.out.tz.on hbel).row.cell hlt)
        have HZD := hid hzd
        clear hrow hbel hzd
        rw [if_neg (Nat.lt_irrefl _)] at hcd
        go_wp2
        go_roundw
        case rel => exact ⟨k + 1, by omega, by go_num, by rw [HZD.out]; exact root_put HR.out, HB.out.setCell (Nat.le_refl _) _⟩
        case measure => simp [intOf]; omega
      · obtain rfl : k = zs.length := by omega
        clear hrow hbel
        go_wp2
        go_meet
        case rel => exact ⟨HR.out, HB.out⟩
  case rest =>
    obtain ⟨hrow, hbel⟩ := hcut
    have HR := hid hrow
    have HB := hid hbel
    have hsz := hbel.size
    clear hrow hbel
    go_upto_region 40 with fail
    go_cut [] from 20 (fun wd => wd.rowIs wb.heap.size 24 (zs.length + 1) (rootMid zs zs.length) ∧ Tg w wd pn ZB pg n zs g)
    case first =>
      go_wp2_with fail
      refine (make_any _ _).mono ?_
      rintro e w1 ⟨rfl, hw1⟩
      have hb1 := below_box hw1
      have HR1 := hid (HR.out.of_block (hb1.block _ HR.out.lt))
      have HB1 := hid (HB.out.trans (hb1.mono hsz))
      clear hw1 hb1 HR HB
      have hcl := HR1.out.cell (i := zs.length) (by omega)
      have hfl := HR1.out.frozen zs.length
      unfold rootMid at hcl
      rw [if_neg (Nat.lt_irrefl _)] at hcl
      go_wp2
      go_meet
      case rel => exact ⟨root_last HR1.out, TG.out.on (HB1.out.setCell (Nat.le_refl _) _)⟩
    case rest =>
    obtain ⟨hr2, htg2⟩ := hcut
    have HR2 := hid hr2
    have TG2 := hid htg2
    clear hr2 htg2 HR HB hsz
    go_upto_region 41 with fail
    go_cut [18, 19] from 20 (fun s18 s19 wd => ∃ pq, s18 = .pointer (some ⟨pq, 0, none⟩) ∧ s19 = .bool true ∧ wd.cell? ⟨pq, 0, none⟩ = some (.string (if ok then g else ⟨#[]⟩)) ∧ Tg w wd pn ZB pg n zs g)
    case first =>
      have cn := TG2.out.tz.cn
      go_wp2_with fail
      have hcall := closest_any n _ 0 (zs.length + 1) (zs ++ [(⟨#[]⟩ : ByteArray)]) _ hn HWF.out (by simp <;> omega) HZ.out (root_cells HR2.out)
      rw [List.length_append, List.length_singleton] at hcall
      refine hcall.mono ?_
      rintro e w2 ⟨rfl, hb2⟩
      clear hcall
      rw [HCLO.out]
      have TG3 := hid (TG2.out.on hb2)
      clear hb2 cn
      obtain ⟨g', hg'⟩ : ∃ g', g' = if ok = true then g else ⟨#[]⟩ := ⟨_, rfl⟩
      have HG' := hid hg'
      have hpair : (if ok = true then (g, true) else ((⟨#[]⟩ : ByteArray), true)) = (g', true) := by rw [hg']; cases ok <;> rfl
      rw [hpair]
      clear hg' hpair
      go_wp2
      go_meet
      case rel => exact ⟨_, rfl, rfl, by rw [← HG'.out]; exact zone_new _ _, TG3.out.on ((Below.refl _ _).alloc (Nat.le_refl _) _)⟩
    case rest =>
      obtain ⟨pq, rfl, rfl, hq, hg⟩ := hcut
      have TG3 := hid hg
      have cg := hg.cg
      clear hg
      cases ok
      · go_upto_region 46 with fail
        clear cg
        rw [if_neg (by simp)] at hq
        go_region_held3 (fun w' => w'.cell? ⟨pq, 0, none⟩ = some (.string ⟨#[]⟩)) (go_keep) (first | (go_at_call 10; refine (make_any _ _).mono ?_; rintro e w3 ⟨rfl, hw3⟩; have hb3 := below_box hw3; have TG4 := hid (TG3.out.drew.on hb3); have hq3 := (hb3.cell (block_lt_of_cell hq)).trans hq; clear hw3 hb3))
        go_wp2_with fail
        go_ret
        exact ⟨rfl, TG4.out.tz.bel⟩
      · go_wp2
        go_ret
        exact ⟨rfl, TG3.out.tz.bel⟩

end Go.Proofs.Qxb6601878a
