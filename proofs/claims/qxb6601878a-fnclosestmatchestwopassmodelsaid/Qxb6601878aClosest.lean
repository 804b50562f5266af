/- The walk of Closest. -/
import Derived.Test.Qxb6601878aUpper
namespace Go.Proofs.Qxb6601878a
open Go.RowKit
attribute [local go_sem ↓] Go.wp_at_zero Go.wp_at_succ

/-- Is n in z, case aside? -/
def inN (n z : ByteArray) : Bool := inB (lowL (bl n)) (lowL (bl z))

def cstep (n : ByteArray) (p : ByteArray × Bool) (z : ByteArray) : ByteArray × Bool := if inN n z && (!p.2 || decide (p.1.size < z.size)) then (z, true) else p
/-- The closest of a list of zones. -/
def clo (n : ByteArray) (zs : List ByteArray) : ByteArray × Bool := zs.foldl (cstep n) (⟨#[]⟩, false)

theorem clo_take (n : ByteArray) (zs : List ByteArray) (k : Nat) (h : k < zs.length) : clo n (zs.take (k + 1)) = cstep n (clo n (zs.take k)) (zs.getD k ⟨#[]⟩) := by
  rw [List.take_succ_eq_append_getElem h]
  unfold clo
  rw [List.foldl_append, List.getD, List.getElem?_eq_getElem h]
  rfl

structure CloMid (w wr : World) (n best : ByteArray) : Prop where
  cn : wr.cell? ⟨w.heap.size, 0, none⟩ = some (.string n)
  cr : wr.cell? ⟨w.heap.size + 1, 0, none⟩ = some (.string ⟨#[]⟩)
  fr : wr.frozen? ⟨w.heap.size + 1, 0, none⟩ = false
  cb : wr.cell? ⟨w.heap.size + 1 + 1, 0, none⟩ = some (.string best)
  fb : wr.frozen? ⟨w.heap.size + 1 + 1, 0, none⟩ = false
  sz : w.heap.size + 1 + 1 < wr.heap.size
  bel : Below w.heap.size w wr

theorem CloMid.on {w wr w' : World} {n best : ByteArray} (h : CloMid w wr n best) (hb : Below wr.heap.size wr w') : CloMid w w' n best := by
  have hs := h.sz
  have h1 : ∀ b o, b < wr.heap.size → w'.cell? ⟨b, o, none⟩ = wr.cell? ⟨b, o, none⟩ := fun b o hb' => hb.cell (p := ⟨b, o, none⟩) hb'
  have h2 : ∀ b o, b < wr.heap.size → w'.frozen? ⟨b, o, none⟩ = wr.frozen? ⟨b, o, none⟩ := fun b o hb' => hb.frozen (p := ⟨b, o, none⟩) hb'
  exact ⟨(h1 _ _ (by omega)).trans h.cn, (h1 _ _ (by omega)).trans h.cr, (h2 _ _ (by omega)).trans h.fr, (h1 _ _ (by omega)).trans h.cb, (h2 _ _ (by omega)).trans h.fb, Nat.lt_of_lt_of_le h.sz hb.size, h.bel.trans (hb.mono h.bel.size)⟩

theorem CloMid.put {w wr : World} {n best : ByteArray} (h : CloMid w wr n best) (z : ByteArray) : CloMid w (wr.setCell ⟨w.heap.size + 1 + 1, 0, none⟩ (.string z)) n z := by
  refine ⟨?_, ?_, ?_, World.cell?_setCell_same _ _ _ h.cb, ?_, by simpa [World.setCell] using h.sz, h.bel.setCell (by simp; omega) _⟩
  · rw [World.cell?_setCell_other _ _ _ _ (by simp <;> omega)]; exact h.cn
  · rw [World.cell?_setCell_other _ _ _ _ (by simp)]; exact h.cr
  · rw [World.frozen?_setCell]; exact h.fr
  · rw [World.frozen?_setCell]; exact h.fb

theorem clo_start (w : World) (n : ByteArray) : CloMid w (((w.alloc (.cells #[.string n] 24)).alloc (.cells #[.string ⟨#[]⟩] 24)).alloc (.cells #[.string ⟨#[]⟩] 24)) n ⟨#[]⟩ := by
  have h0 : (((w.alloc (.cells #[.string n] 24)).alloc (.cells #[.string ⟨#[]⟩] 24)).alloc (.cells #[.string ⟨#[]⟩] 24)).heap[w.heap.size]? = some (.cells #[.string n] 24 (0, 0)) := by
    rw [Below.heap_alloc _ _ _ (by simp <;> omega), Below.heap_alloc _ _ _ (by simp)]
    exact heap_alloc_new w _
  have h1 : (((w.alloc (.cells #[.string n] 24)).alloc (.cells #[.string ⟨#[]⟩] 24)).alloc (.cells #[.string ⟨#[]⟩] 24)).heap[w.heap.size + 1]? = some (.cells #[.string ⟨#[]⟩] 24 (0, 0)) := by
    rw [Below.heap_alloc _ _ _ (by simp)]
    have := heap_alloc_new (w.alloc (.cells #[.string n] 24)) (.cells #[.string ⟨#[]⟩] 24)
    rwa [show (w.alloc (.cells #[.string n] 24)).heap.size = w.heap.size + 1 by simp] at this
  have h2 : (((w.alloc (.cells #[.string n] 24)).alloc (.cells #[.string ⟨#[]⟩] 24)).alloc (.cells #[.string ⟨#[]⟩] 24)).heap[w.heap.size + 1 + 1]? = some (.cells #[.string ⟨#[]⟩] 24 (0, 0)) := by
    have := heap_alloc_new ((w.alloc (.cells #[.string n] 24)).alloc (.cells #[.string ⟨#[]⟩] 24)) (.cells #[.string ⟨#[]⟩] 24)
    rwa [show ((w.alloc (.cells #[.string n] 24)).alloc (.cells #[.string ⟨#[]⟩] 24)).heap.size = w.heap.size + 1 + 1 by simp] at this
  refine ⟨by rw [cell_of_row _ _ 0 _ _ _ h0]; rfl, by rw [cell_of_row _ _ 0 _ _ _ h1]; rfl, by simp only [World.frozen?, h1]; rfl, by rw [cell_of_row _ _ 0 _ _ _ h2]; rfl, by simp only [World.frozen?, h2]; rfl, by simp, ?_⟩
  exact (((Below.refl _ _).alloc (Nat.le_refl _) _).alloc (by simp) _).alloc (by simp <;> omega) _

theorem zone_new (wr : World) (z : ByteArray) : (wr.alloc (.cells #[.string z] 24)).cell? ⟨wr.heap.size, 0, none⟩ = some (.string z) := by
  rw [cell_of_row _ _ 0 _ _ _ (heap_alloc_new wr (.cells #[.string z] 24))]; rfl

theorem cstep_no {n best z : ByteArray} {found : Bool} (ht : inB (lowL (bl n)) (lowL (bl z)) = false) : cstep n (best, found) z = (best, found) := by
  unfold cstep inN; rw [ht]; rfl
theorem cstep_first {n best z : ByteArray} (ht : inB (lowL (bl n)) (lowL (bl z)) = true) : cstep n (best, false) z = (z, true) := by
  unfold cstep inN; rw [ht]; rfl
theorem cstep_more {n best z : ByteArray} {found : Bool} (ht : inB (lowL (bl n)) (lowL (bl z)) = true) (hs : best.size < z.size) : cstep n (best, found) z = (z, true) := by
  unfold cstep inN; rw [ht]; simp [hs]
theorem cstep_less {n best z : ByteArray} (hs : ¬ best.size < z.size) : cstep n (best, true) z = (best, true) := by
  unfold cstep; simp [hs]

set_option maxRecDepth 100000 in
set_option maxHeartbeats 1000000 in
theorem closest_any (n : ByteArray) (b off cap : Nat) (zs : List ByteArray) (w : World) (hn : n.size ≤ 1048576) (hwf : wf (bl n) = true) (hl : zs.length ≤ 1048576) (hz : ∀ i, i < zs.length → (zs.getD i ⟨#[]⟩).size ≤ 1048576)
    (hc : ∀ i, i < zs.length → w.cell? ⟨b, off + i, none⟩ = some (.string (zs.getD i ⟨#[]⟩))) :
    Calls Try.prog 21 #[.agg #[.string n], .slice (some ⟨b, off, none⟩) zs.length cap] w fun e w' => e = .returned (.tuple #[.agg #[.string (clo n zs).1], .bool (clo n zs).2]) ∧ Below w.heap.size w w' := by
  have HWF := hid hwf
  have HZ : Hid (∀ i, i < zs.length → (zs.getD i ⟨#[]⟩).size ≤ 1048576) := hz
  have HC : Hid (∀ i, i < zs.length → w.cell? ⟨b, off + i, none⟩ = some (.string (zs.getD i ⟨#[]⟩))) := hc
  have ST := hid (clo_start w n)
  clear hwf hz hc
  go_enter Try.func21, Try.ntmps21
  go_wp2
  go_loopw [7, 12] (fun s t wr => ∃ k : Nat, k ≤ zs.length ∧ s = .bool (clo n (zs.take k)).2 ∧ t = .int .i64 (k : Nat) ∧ CloMid w wr n (clo n (zs.take k)).1) (fun _ t _ => zs.length - (intOf t).toNat)
  case atStart => exact ⟨0, Nat.zero_le _, rfl, rfl, ST.out⟩
  case round =>
    obtain ⟨k, hk, rfl, rfl, hm⟩ := hrel
    by_cases hlt : k < zs.length
    · obtain ⟨z, hzd⟩ : ∃ z, z = zs.getD k ⟨#[]⟩ := ⟨_, rfl⟩
      have hcz : wr.cell? ⟨b, off + k, none⟩ = some (.string z) := by rw [hzd, hm.bel.cell (block_lt_of_cell (HC.out k hlt))]; exact HC.out k hlt
      have hzs : z.size ≤ 1048576 := by rw [hzd]; exact HZ.out k hlt
      have STEP := hid (clo_take n zs k hlt)
      rw [← hzd] at STEP
      generalize clo n (zs.take k) = p at *
      obtain ⟨best, found⟩ := p
      have HM := hid hm
      clear hm hzd
      have HM1 := hid (HM.out.on ((Below.refl wr.heap.size wr).alloc (Nat.le_refl _) (.cells #[.string z] 24)))
      have cn1 := HM1.out.cn
      have zc1 := hid (zone_new wr z)
      go_wp2_with fail
      refine (in_any n z _ hn hzs HWF.out).mono ?_
      rintro e w2 ⟨rfl, hb2⟩
      have HM2 := hid (HM1.out.on hb2)
      have cn2 := HM2.out.cn
      have cb2 := HM2.out.cb
      have fb2 := HM2.out.fb
      have cz2 : w2.cell? ⟨wr.heap.size, 0, none⟩ = some (.string z) := (hb2.cell (p := ⟨wr.heap.size, 0, none⟩) (by simp)).trans zc1.out
      have hsz2 : w.heap.size + 1 + 1 < wr.heap.size := HM.out.sz
      clear hb2 cn1 zc1
      cases ht : inB (lowL (bl n)) (lowL (bl z))
      · go_wp2
        go_roundw
        case rel => exact ⟨k + 1, by omega, by rw [STEP.out, cstep_no ht], by go_num, by rw [STEP.out, cstep_no ht]; exact HM2.out⟩
        case measure => simp [intOf]; omega
      · cases found
        · go_wp2
          go_roundw
          case rel => exact ⟨k + 1, by omega, by rw [STEP.out, cstep_first ht], by go_num, by rw [STEP.out, cstep_first ht]; exact HM2.out.put z⟩
          case measure => simp [intOf]; omega
        · by_cases hs : best.size < z.size
          · go_wp2
            go_roundw
            case rel => exact ⟨k + 1, by omega, by rw [STEP.out, cstep_more ht hs], by go_num, by rw [STEP.out, cstep_more ht hs]; exact HM2.out.put z⟩
            case measure => simp [intOf]; omega
          · go_wp2
            go_roundw
            case rel => exact ⟨k + 1, by omega, by rw [STEP.out, cstep_less hs], by go_num, by rw [STEP.out, cstep_less hs]; exact HM2.out⟩
            case measure => simp [intOf]; omega
    · obtain rfl : k = zs.length := by omega
      rw [List.take_length] at hm ⊢
      generalize hp : clo n zs = p at *
      obtain ⟨best, found⟩ := p
      have HM := hid hm
      have cb := hm.cb
      have cr := hm.cr
      have fr := hm.fr
      clear hm
      go_wp2
      refine bodyPost_ret (v := .tuple #[.agg #[.string best], .bool found]) (by simp [results, Try.results21, go_sem, cr]) rfl ⟨rfl, HM.out.bel.setCell (by simp) _⟩

end Go.Proofs.Qxb6601878a
