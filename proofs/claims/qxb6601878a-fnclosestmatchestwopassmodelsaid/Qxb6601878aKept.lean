/- FnClosestDropAndRoot, its middle part: the zones that the name is not in dropped. -/
import Derived.Test.Qxb6601878aRoot
namespace Go.Proofs.Qxb6601878a
open Go.RowKit
attribute [local go_sem ↓] Go.wp_at_zero Go.wp_at_succ

/-- The first k of the zones, those that the name is in. -/
def kept (n : ByteArray) (zs : List ByteArray) (k : Nat) : List ByteArray := (zs.take k).filter (inN n)

theorem kept_yes {n : ByteArray} {zs : List ByteArray} {k : Nat} (hk : k < zs.length) (h : inB (lowL (bl n)) (lowL (bl (zs.getD k ⟨#[]⟩))) = true) : kept n zs (k + 1) = kept n zs k ++ [zs.getD k ⟨#[]⟩] := by
  have e : zs.getD k ⟨#[]⟩ = zs[k] := by rw [List.getD, List.getElem?_eq_getElem hk]; rfl
  rw [e] at h ⊢
  unfold kept
  rw [List.take_succ_eq_append_getElem hk, List.filter_append]
  congr 1
  have h' : inN n zs[k] = true := h
  simp [h']
theorem kept_no {n : ByteArray} {zs : List ByteArray} {k : Nat} (hk : k < zs.length) (h : inB (lowL (bl n)) (lowL (bl (zs.getD k ⟨#[]⟩))) = false) : kept n zs (k + 1) = kept n zs k := by
  have e : zs.getD k ⟨#[]⟩ = zs[k] := by rw [List.getD, List.getElem?_eq_getElem hk]; rfl
  rw [e] at h
  unfold kept
  rw [List.take_succ_eq_append_getElem hk, List.filter_append]
  have h' : inN n zs[k] = false := h
  simp [h']
theorem kept_le (n : ByteArray) (zs : List ByteArray) (k : Nat) : (kept n zs k).length ≤ k :=
  Nat.le_trans (List.length_filter_le _ _) (by rw [List.length_take]; omega)

/-- The kept zones' row. -/
structure KMid (wk wr : World) (n : ByteArray) (zs : List ByteArray) (k : Nat) : Prop where
  own : wr.ownsRow wk.heap.size 24 1 (.slice (some ⟨wk.heap.size, 0, none⟩) (kept n zs k).length zs.length) (kept n zs k).length ((kept n zs k).map Value.string)
  bel : Below wk.heap.size wk wr

theorem KMid.start (wk : World) (n : ByteArray) (zs : List ByteArray) (hl : zs.length ≤ 65536) : KMid wk (wk.alloc (.cells (madeCells #[.string ⟨#[]⟩] zs.length) 24)) n zs 0 :=
  ⟨⟨rfl, .inr ⟨_, _, _, rfl, Nat.le_refl _, heap_alloc_new wk _, Nat.zero_le _, by unfold maxLen; omega, by rw [size_madeCells, Nat.mul_one], rfl⟩⟩, (Below.refl _ _).alloc (Nat.le_refl _) _⟩

theorem own_on {w w' : World} {v : Value} {m : Nat} {xs : List Value} {base : Nat} (h : w.ownsRow base 24 1 v m xs) (hb : Below w.heap.size w w') : w'.ownsRow base 24 1 v m xs := by
  obtain ⟨h1, h2 | ⟨g, cap, cur, e1, e2, e3, e4⟩⟩ := h
  · exact ⟨h1, .inl h2⟩
  · exact ⟨h1, .inr ⟨g, cap, cur, e1, e2, by rw [hb.block g (Array.getElem?_eq_some_iff.mp e3).1]; exact e3, e4⟩⟩

theorem KMid.on {wk wr w' : World} {n : ByteArray} {zs : List ByteArray} {k : Nat} (h : KMid wk wr n zs k) (hb : Below wr.heap.size wr w') : KMid wk w' n zs k :=
  ⟨own_on h.own hb, h.bel.trans (hb.mono h.bel.size)⟩
theorem KMid.drew {wk wr : World} {n : ByteArray} {zs : List ByteArray} {k : Nat} (h : KMid wk wr n zs k) : KMid wk wr.drew n zs k := ⟨h.own.drew, h.bel.drew⟩
theorem KMid.no {wk wr : World} {n : ByteArray} {zs : List ByteArray} {k : Nat} (h : KMid wk wr n zs k) (e : kept n zs (k + 1) = kept n zs k) : KMid wk wr n zs (k + 1) := by
  obtain ⟨h1, h2⟩ := h
  rw [← e] at h1
  exact ⟨h1, h2⟩

theorem one_cell {w : World} {b : Nat} {z : ByteArray} (h : w.cell? ⟨b, 0, none⟩ = some (.string z)) : ∀ j u, ([.string z] : List Value)[j]? = some u → w.cell? (Addr.add ⟨b, 0, none⟩ j) = some u := fun j u hj => by
  match j, hj with
  | 0, hj => simp at hj; subst hj; exact h

theorem KMid.yes {wk w1 w2 : World} {n z : ByteArray} {zs : List ByteArray} {k : Nat} (h : KMid wk w1 n zs k) (e : kept n zs (k + 1) = kept n zs k ++ [z])
    (ho : w2.ownsRow wk.heap.size 24 1 (.slice (some ⟨wk.heap.size, 0, none⟩) ((kept n zs k).length + 1) zs.length) ((kept n zs k).length + 1) ((kept n zs k).map Value.string ++ [.string z]))
    (hg : (w1.alloc (.cells #[.string z] 24)).grownBy w2 (some wk.heap.size)) : KMid wk w2 n zs (k + 1) := by
  refine ⟨?_, (h.bel.alloc h.bel.size _).grown hg (by simp; have := h.bel.size; omega) (fun k hk => by cases hk; exact Nat.le_refl _)⟩
  rw [e, List.length_append, List.map_append]
  exact ho

theorem KMid.cells {wk wr : World} {n : ByteArray} {zs : List ByteArray} {k : Nat} (h : KMid wk wr n zs k) : ∀ i, i < (kept n zs k).length → wr.cell? ⟨wk.heap.size, 0 + i, none⟩ = some (.string ((kept n zs k).getD i ⟨#[]⟩)) := fun i hi => by
  obtain ⟨h1, ⟨e, _⟩ | ⟨g, cap, cur, e1, e2, e3, e4, e5, e6, e7⟩⟩ := h.own
  · cases e
  · cases e1
    rw [cell_of_row _ _ _ _ _ _ e3, Nat.zero_add, ← Array.getElem?_toList]
    have : (cur.toList.take ((kept n zs k).length * 1))[i]? = some (.string ((kept n zs k).getD i ⟨#[]⟩)) := by
      rw [e7, List.getElem?_map, List.getElem?_eq_getElem hi, List.getD, List.getElem?_eq_getElem hi]; rfl
    rw [List.getElem?_take_of_lt (by omega)] at this
    exact this

theorem kept_small {n : ByteArray} {zs : List ByteArray} (hz : ∀ i, i < zs.length → (zs.getD i ⟨#[]⟩).size ≤ 1048576) : ∀ i, i < (kept n zs zs.length).length → ((kept n zs zs.length).getD i ⟨#[]⟩).size ≤ 1048576 := fun i hi => by
  have hsub : ∀ z, z ∈ kept n zs zs.length → z ∈ zs := fun z hz => by
    unfold kept at hz
    rw [List.take_length] at hz
    exact (List.mem_filter.mp hz).1
  have hm : (kept n zs zs.length).getD i ⟨#[]⟩ ∈ zs := by
    rw [List.getD, List.getElem?_eq_getElem hi]
    exact hsub _ (List.getElem_mem hi)
  obtain ⟨j, hj, e⟩ := List.getElem_of_mem hm
  have := hz j hj
  rw [List.getD, List.getElem?_eq_getElem hj, Option.getD_some, e] at this
  exact this

set_option maxRecDepth 100000 in
set_option maxHeartbeats 2000000 in
theorem keptTail (pn ZB : Nat) (n : ByteArray) (zs : List ByteArray) (w wb : World) (hn : n.size ≤ 1048576) (hwf : wf (bl n) = true) (hl : zs.length ≤ 65536) (hz : ∀ i, i < zs.length → (zs.getD i ⟨#[]⟩).size ≤ 1048576)
    (htz : Tz w wb pn ZB n zs)
    {u0 u1 u2 u3 u4 u5 u6 u9 u10 u11 u12 u13 u14 u15 u16 u17 u18 u19 u20 u21 u22 u23 u24 u25 u26 u27 u28 u29 u30 u31 u32 u33 u34 u35 u36 u37 u38 u39 u40 u41 u42 u43 u44 u45 u46 u47 u48 u49 u50 u51 u52 u53 u54 u55 u56 u57 u58 u59 u60 u61 u62 u63 u64 u65 u66 u67 u68 u69 u70 u71 u72 u73 u74 u75 u76 u77 u78 u79 u80 u81 u82 u83 u84 u85 u86 u87 u88 u89 u90 u91 u92 u93 u94 u95 u96 u97 u98 u99 u100 u101 u102 u103 u104 u105 u106 u107 u108 u109 u110 u111 u112 u113 u114 u115 u116 u117 u118 u119 u120 u121 u122 u123 u124 u125 u126 u127 u128 u129 u130 u131 u132 u133 u134 u135 u136 u137 u138 u139 u140 u141 u142 u143 u144 u145 u146 u147 u148 u149 u150 u151 u152 u153 : Value} :
    Code.wp Try.prog (dropSeq 12 (Try.f8.body.getD .skip)) (bodyPost Try.prog Try.f8 fun e w' => e = .returned (.bool true) ∧ Below w.heap.size w w')
      ⟨#[u0, u1, u2, u3, u4, u5, u6, .pointer (some ⟨pn, 0, none⟩), .slice (some ⟨ZB, 0, none⟩) zs.length zs.length, u9, u10, u11, u12, u13, u14, u15, u16, u17, u18, u19, u20, u21, u22, u23, u24, u25, u26, u27, u28, u29, u30, u31, u32, u33, u34, u35, u36, u37, u38, u39, u40, u41, u42, u43, u44, u45, u46, u47, u48, u49, u50, u51, u52, u53, u54, u55, u56, u57, u58, u59, u60, u61, u62, u63, u64, u65, u66, u67, u68, u69, u70, u71, u72, u73, u74, u75, u76, u77, u78, u79, u80, u81, u82, u83, u84, u85, u86, u87, u88, u89, u90, u91, u92, u93, u94, u95, u96, u97, u98, u99, u100, u101, u102, u103, u104, u105, u106, u107, u108, u109, u110, u111, u112, u113, u114, u115, u116, u117, u118, u119, u120, u121, u122, u123, u124, u125, u126, u127, u128, u129, u130, u131, u132, u133, u134, u135, u136, u137, u138, u139, u140, u141, u142, u143, u144, u145, u146, u147, u148, u149, u150, u151, u152, u153], []⟩ wb := by
  have HWF := hid hwf
  have HZ := hid hz
  have TZ := hid htz
  have cn := htz.cn
  clear hwf hz htz
  obtain ⟨g, ok, hclo⟩ : ∃ g ok, clo n zs = (g, ok) := ⟨_, _, rfl⟩
  have HCLO := hid hclo
  clear hclo
  obtain ⟨i0, hi0, hz0, hz1, hz2⟩ := info_parts info24
  have HI := hid (And.intro hi0 hz1)
  clear hi0 hz0 hz1 hz2
  conv => arg 2; whnf
  conv => arg 4; dsimp only
  go_upto_region 25 with fail
  go_cut [10, 11] from 20 (fun s10 s11 wd => ∃ pg, s10 = .pointer (some ⟨pg, 0, none⟩) ∧ s11 = .bool ok ∧ Tg w wd pn ZB pg n zs g)
  case first =>
    go_wp2_with fail
    refine (closest_any n _ 0 zs.length zs _ hn HWF.out (by omega) HZ.out TZ.out.cells).mono ?_
    rintro e w2 ⟨rfl, hb2⟩
    rw [HCLO.out]
    have TZ2 := hid (TZ.out.on hb2)
    clear hb2 cn
    go_wp2
    go_meet
    case rel => exact ⟨_, rfl, rfl, TZ2.out.box⟩
  case rest =>
    obtain ⟨pg, rfl, rfl, htg⟩ := hcut
    clear cn TZ
    have TG := hid htg
    clear htg
    obtain ⟨wk, hwk⟩ : ∃ wk, wk = wc := ⟨_, rfl⟩
    subst hwk
    have hmk := make33_room wk zs.length (by omega)
    have KST := hid (KMid.start wk n zs hl)
    go_upto_block 4 with fail
    clear hmk
    go_cut [12, 13] from 20 (fun s12 s13 wd => s12 = .slice (some ⟨wk.heap.size, 0, none⟩) (kept n zs zs.length).length zs.length ∧ KMid wk wd n zs zs.length)
    case first =>
      go_wp2
      go_loopw [12, 13] (fun s t wr => ∃ k : Nat, k ≤ zs.length ∧ s = .slice (some ⟨wk.heap.size, 0, none⟩) (kept n zs k).length zs.length ∧ t = .int .i64 (k : Nat) ∧ KMid wk wr n zs k) (fun _ t _ => zs.length - (intOf t).toNat)
      case atStart => exact ⟨0, Nat.zero_le _, rfl, rfl, KST.out⟩
      case round =>
        obtain ⟨k, hk, rfl, rfl, hm⟩ := hrel
        by_cases hlt : k < zs.length
        · have TR := hid (TG.out.on hm.bel)
          have cn := TR.out.tz.cn
          have hkl := kept_le n zs k
          have KY := hid (kept_yes (n := n) hlt)
          have KN := hid (kept_no (n := n) hlt)
          have hzs := HZ.out k hlt
          have hcz : wr.cell? ⟨ZB, k, none⟩ = some (.string (zs.getD k ⟨#[]⟩)) := TR.out.tz.row.cell hlt
          generalize zs.getD k ⟨#[]⟩ = z at *
          have HM := hid hm
          clear hm
          go_wp2_with fail
          go_region_held3 (fun w' => w'.cell? ⟨pn, 0, none⟩ = some (.string n) ∧ w'.cell? ⟨ZB, k, none⟩ = some (.string z)) (go_keep) (first | (go_at_call 16; refine (in_any n z _ hn hzs HWF.out).mono ?_; rintro e w1 ⟨rfl, hb1⟩; have TR1 := hid (TR.out.drew.on hb1); have HM1 := hid (HM.out.drew.on hb1); have cn1 := TR1.out.tz.cn; have cz1 := (hb1.cell (block_lt_of_cell hcz)).trans hcz; clear hb1))
          clear cn hcz
          cases ht : inB (lowL (bl n)) (lowL (bl z))
          · go_wp2
            go_roundw
            case rel => exact ⟨k + 1, by omega, by rw [KN.out ht], by go_num, HM1.out.no (KN.out ht)⟩
            case measure => simp [intOf]; omega
          · have HOWN := hid (own_on HM1.out.own ((Below.refl w1.heap.size w1).alloc (Nat.le_refl _) (.cells #[.string z] 24)))
            go_wp2_with (at_builtin; refine wpList_append_fits _ rfl (.tmp 96) (.tmp 101) 33 rfl wk.heap.size 24 i0 1 Try.underlying33 HI.out.1 HI.out.2 wk.heap.size (kept n zs k).length zs.length _ rfl HOWN.out ⟨w1.heap.size, 0, none⟩ 1 1 [.string z] rfl rfl (one_cell (zone_new w1 z)) (by intro u hu; simp at hu; subst hu; rfl) (by omega) ?_; intro w2 hown2 hgrow2; have HO2 := hid hown2; have HG2 := hid hgrow2; clear hown2 hgrow2)
            all_goals
              go_roundw
              case rel => exact ⟨k + 1, by omega, by rw [KY.out ht, List.length_append]; rfl, by go_num, HM1.out.yes (KY.out ht) HO2.out HG2.out⟩
              case measure => simp [intOf]; omega
        · obtain rfl : k = zs.length := by omega
          have HM := hid hm
          clear hm
          go_wp2
          go_meet
          case rel => exact ⟨rfl, HM.out⟩
    case rest =>
      obtain ⟨rfl, hm⟩ := hcut
      have HM := hid hm
      have TG1 := hid (TG.out.on hm.bel)
      have cn := TG1.out.tz.cn
      have HKC := hid hm.cells
      clear hm
      have HCK : Hid (clo n (kept n zs zs.length) = (g, ok)) := by rw [kept, List.take_length, clo_filter]; exact HCLO
      have HKZ := hid (kept_small (n := n) HZ.out)
      have hkl := kept_le n zs zs.length
      go_upto_region 32 with fail
      go_cut [14, 15] from 20 (fun s14 s15 wd => ∃ pq, s14 = .pointer (some ⟨pq, 0, none⟩) ∧ s15 = .bool ok ∧ wd.cell? ⟨pq, 0, none⟩ = some (.string g) ∧ Tg w wd pn ZB pg n zs g)
      case first =>
        go_wp2_with fail
        refine (closest_any n _ 0 zs.length (kept n zs zs.length) _ hn HWF.out (by omega) HKZ.out HKC.out).mono ?_
        rintro e w2 ⟨rfl, hb2⟩
        rw [HCK.out]
        have TG2 := hid (TG1.out.on hb2)
        clear hb2 cn
        go_wp2
        go_meet
        case rel => exact ⟨_, rfl, rfl, zone_new _ _, TG2.out.on ((Below.refl _ _).alloc (Nat.le_refl _) _)⟩
      case rest =>
        obtain ⟨pq, rfl, rfl, hq, htg2⟩ := hcut
        have TG2 := hid htg2
        have cg := htg2.cg
        clear htg2 cn
        go_upto_region 33 with fail
        go_cut [116] from 20 (fun s116 wd => s116 = .bool false ∧ Tg w wd pn ZB pg n zs g)
        case first =>
          cases ok
          · go_wp2
            go_meet
            case rel => exact ⟨rfl, TG2.out⟩
          · go_wp2
            go_meet
            case rel => exact ⟨rfl, TG2.out⟩
        case rest =>
          obtain ⟨rfl, htg3⟩ := hcut
          rename_i h2 k1 h1
          refine h1 _ _ (wp_cond_false rfl (wp_skip ?_))
          exact h2 _ _ (rootTail pn ZB pg n g ok zs w _ hn HWF.out hl HZ.out HCLO.out htg3)

end Go.Proofs.Qxb6601878a
