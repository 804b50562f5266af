/- The walk of FnInOrdered. -/
import Derived.Test.Qxb6601878aIn
import Derived.Deep.RegionHeld3
namespace Go.Proofs.Qxb6601878a
open Go.RowKit
attribute [local go_sem ↓] Go.wp_at_zero Go.wp_at_succ

def IsB (e : Ending) : Prop := ∃ x : Bool, e = .returned (.bool x)

set_option maxHeartbeats 400000 in
theorem bytes19 (a b c : ByteArray) (w : World) (ha : a.size ≤ maxLen) (hb : b.size ≤ maxLen) (hc : c.size ≤ maxLen) :
    Calls Try.prog 19 #[.string a, .string b, .string c] w fun e w' => IsB e ∧ w = w' := by
  unfold maxLen at ha hb hc
  go_enter Try.func19, Try.ntmps19
  go_wp2
  all_goals
    go_ret
    exact ⟨⟨_, rfl⟩, rfl⟩

/-- Three names in boxes of the law's own. -/
structure Boxes3 (w0 wd : World) (pa pb pc : Nat) (a b c : ByteArray) : Prop where
  ca : wd.cell? ⟨pa, 0, none⟩ = some (.string a)
  cb : wd.cell? ⟨pb, 0, none⟩ = some (.string b)
  cc : wd.cell? ⟨pc, 0, none⟩ = some (.string c)
  bel : Below w0.heap.size w0 wd

theorem Boxes3.on {w0 wd w' : World} {pa pb pc : Nat} {a b c : ByteArray} (h : Boxes3 w0 wd pa pb pc a b c) (hb : Below wd.heap.size wd w') : Boxes3 w0 w' pa pb pc a b c :=
  ⟨(hb.cell (block_lt_of_cell h.ca)).trans h.ca, (hb.cell (block_lt_of_cell h.cb)).trans h.cb, (hb.cell (block_lt_of_cell h.cc)).trans h.cc, h.bel.trans (hb.mono h.bel.size)⟩

theorem Boxes3.drew {w0 wd : World} {pa pb pc : Nat} {a b c : ByteArray} (h : Boxes3 w0 wd pa pb pc a b c) : Boxes3 w0 wd.drew pa pb pc a b c := ⟨h.ca, h.cb, h.cc, h.bel.drew⟩

theorem Boxes3.drewN {w0 wd : World} {pa pb pc : Nat} {a b c : ByteArray} (h : Boxes3 w0 wd pa pb pc a b c) (k : Nat) : Boxes3 w0 (wd.drewN k) pa pb pc a b c :=
  ⟨h.ca, h.cb, h.cc, ⟨h.bel.os, h.bel.tape, h.bel.output, h.bel.size, h.bel.block⟩⟩

theorem boxes_start (w : World) (a b c : ByteArray) : Boxes3 w ((((((w.alloc (.cells #[.string a] 24)).alloc (.cells #[.string a] 24)).alloc (.cells #[.string b] 24)).alloc (.cells #[.string b] 24)).alloc (.cells #[.string c] 24)).alloc (.cells #[.string c] 24))
    (w.heap.size + 1) (w.heap.size + 1 + 1 + 1) (w.heap.size + 1 + 1 + 1 + 1 + 1) a b c := by
  have ha : ((((((w.alloc (.cells #[.string a] 24)).alloc (.cells #[.string a] 24)).alloc (.cells #[.string b] 24)).alloc (.cells #[.string b] 24)).alloc (.cells #[.string c] 24)).alloc (.cells #[.string c] 24)).heap[w.heap.size + 1]? = some (.cells #[.string a] 24 (0, 0)) := by
    rw [Below.heap_alloc _ _ _ (by simp <;> omega), Below.heap_alloc _ _ _ (by simp <;> omega), Below.heap_alloc _ _ _ (by simp <;> omega), Below.heap_alloc _ _ _ (by simp)]
    have := heap_alloc_new (w.alloc (.cells #[.string a] 24)) (.cells #[.string a] 24)
    rwa [show (w.alloc (.cells #[.string a] 24)).heap.size = w.heap.size + 1 by simp] at this
  have hb : ((((((w.alloc (.cells #[.string a] 24)).alloc (.cells #[.string a] 24)).alloc (.cells #[.string b] 24)).alloc (.cells #[.string b] 24)).alloc (.cells #[.string c] 24)).alloc (.cells #[.string c] 24)).heap[w.heap.size + 1 + 1 + 1]? = some (.cells #[.string b] 24 (0, 0)) := by
    rw [Below.heap_alloc _ _ _ (by simp <;> omega), Below.heap_alloc _ _ _ (by simp)]
    have := heap_alloc_new (((w.alloc (.cells #[.string a] 24)).alloc (.cells #[.string a] 24)).alloc (.cells #[.string b] 24)) (.cells #[.string b] 24)
    rwa [show (((w.alloc (.cells #[.string a] 24)).alloc (.cells #[.string a] 24)).alloc (.cells #[.string b] 24)).heap.size = w.heap.size + 1 + 1 + 1 by simp] at this
  have hc : ((((((w.alloc (.cells #[.string a] 24)).alloc (.cells #[.string a] 24)).alloc (.cells #[.string b] 24)).alloc (.cells #[.string b] 24)).alloc (.cells #[.string c] 24)).alloc (.cells #[.string c] 24)).heap[w.heap.size + 1 + 1 + 1 + 1 + 1]? = some (.cells #[.string c] 24 (0, 0)) := by
    have := heap_alloc_new (((((w.alloc (.cells #[.string a] 24)).alloc (.cells #[.string a] 24)).alloc (.cells #[.string b] 24)).alloc (.cells #[.string b] 24)).alloc (.cells #[.string c] 24)) (.cells #[.string c] 24)
    rwa [show (((((w.alloc (.cells #[.string a] 24)).alloc (.cells #[.string a] 24)).alloc (.cells #[.string b] 24)).alloc (.cells #[.string b] 24)).alloc (.cells #[.string c] 24)).heap.size = w.heap.size + 1 + 1 + 1 + 1 + 1 by simp] at this
  refine ⟨by rw [cell_of_row _ _ 0 _ _ _ ha]; rfl, by rw [cell_of_row _ _ 0 _ _ _ hb]; rfl, by rw [cell_of_row _ _ 0 _ _ _ hc]; rfl, ?_⟩
  exact ((((((Below.refl _ _).alloc (Nat.le_refl _) _).alloc (by simp) _).alloc (by simp <;> omega) _).alloc (by simp <;> omega) _).alloc (by simp <;> omega) _).alloc (by simp <;> omega) _

set_option maxRecDepth 100000 in
set_option maxHeartbeats 1000000 in
theorem ordered_core (a b c : ByteArray) (w : World) (ha : a.size ≤ maxLen) (hb : b.size ≤ maxLen) (hc : c.size ≤ maxLen) :
    Calls Try.prog 6 #[.string a, .string b, .string c] w fun e w' => e = .returned (.bool true) ∧ Below w.heap.size w w' := by
  have HA := hid ha
  have HB := hid hb
  have HC := hid hc
  unfold maxLen at ha hb hc
  go_enter Try.func6, Try.ntmps6
  go_wp2_with fail
  refine (bytes19 a b c w HA.out HB.out HC.out).mono ?_
  rintro e w' ⟨⟨x, rfl⟩, rfl⟩
  cases x with
  | false =>
    go_wp2
    go_ret
    exact ⟨rfl, Below.refl _ _⟩
  | true =>
    by_cases h1 : 262144 < a.size
    · go_wp2
      go_ret
      exact ⟨rfl, Below.refl _ _⟩
    by_cases h2 : 262144 < b.size
    · go_wp2
      go_ret
      exact ⟨rfl, Below.refl _ _⟩
    by_cases h3 : 262144 < c.size
    · go_wp2
      go_ret
      exact ⟨rfl, Below.refl _ _⟩
    cases hwa : wf (bl a) with
    | false =>
      go_wp2_with (go_at_call 15; refine (wf_any _ _ (by omega)).mono ?_; rintro e w' ⟨rfl, rfl⟩)
      go_ret
      exact ⟨rfl, Below.refl _ _⟩
    | true =>
      cases hwb : wf (bl b) with
      | false =>
        go_wp2_with (go_at_call 15; refine (wf_any _ _ (by omega)).mono ?_; rintro e w' ⟨rfl, rfl⟩)
        go_ret
        exact ⟨rfl, Below.refl _ _⟩
      | true =>
        go_upto_region 14 with (first | (go_at_call 15; refine (wf_any _ _ (by omega)).mono ?_; rintro e w' ⟨rfl, rfl⟩) | (go_at_call 10; refine (make_any _ _).mono ?_; rintro e w' ⟨rfl, rfl⟩))
        have HWA := hid hwa
        have HWB := hid hwb
        have START := hid (boxes_start w a b c)
        clear hwa hwb
        go_cut [7, 8, 9, 10] from 12 (fun s7 s8 s9 s10 wd => ∃ pa pb pc, s7 = .pointer (some ⟨pa, 0, none⟩) ∧ s8 = .pointer (some ⟨pb, 0, none⟩) ∧ s9 = .pointer (some ⟨pc, 0, none⟩) ∧ s10 = .bool (inB (lowL (bl a)) (lowL (bl b))) ∧ Boxes3 w wd pa pb pc a b c)
        case first =>
          go_wp2_with fail
          refine (in_any a b _ (by omega) (by omega) HWA.out).mono ?_
          rintro e w1 ⟨rfl, hb1⟩
          have B1 := hid (START.out.on hb1)
          clear hb1
          go_wp2
          go_meet
          case rel => exact ⟨_, _, _, rfl, rfl, rfl, rfl, B1.out⟩
        case rest =>
          clear START
          obtain ⟨pa, pb, pc, rfl, rfl, rfl, rfl, hB⟩ := hcut
          have B0 := hid hB
          have ca := hB.ca
          have cb := hB.cb
          have cc := hB.cc
          clear hB
          go_upto_region 15 with fail
          go_cut [11] from 12 (fun s11 wd => s11 = .bool (inB (lowL (bl a)) (lowL (bl c))) ∧ Boxes3 w wd pa pb pc a b c)
          case first =>
            go_wp2_with fail
            refine (in_any a c _ (by omega) (by omega) HWA.out).mono ?_
            rintro e w1 ⟨rfl, hb1⟩
            have B1 := hid (B0.out.on hb1)
            clear hb1
            go_wp2
            go_meet
            case rel => exact ⟨rfl, B1.out⟩
          case rest =>
            clear ca cb cc B0
            obtain ⟨rfl, hB⟩ := hcut
            have B0 := hid hB
            have ca := hB.ca
            have cb := hB.cb
            have cc := hB.cc
            clear hB
            have LAC : Hid (inB (lowL (bl a)) (lowL (bl c)) = true → c.size ≤ a.size) := fun h => by have := inB_length h; rwa [lowL_length, lowL_length] at this
            have LAB : Hid (inB (lowL (bl a)) (lowL (bl b)) = true → b.size ≤ a.size) := fun h => by have := inB_length h; rwa [lowL_length, lowL_length] at this
            have TR : Hid (inB (lowL (bl a)) (lowL (bl b)) = true → inB (lowL (bl b)) (lowL (bl c)) = true → inB (lowL (bl a)) (lowL (bl c)) = true) := fun h1 h2 => inB_trans h1 h2
            have AS : Hid (inB (lowL (bl a)) (lowL (bl b)) = true → inB (lowL (bl b)) (lowL (bl a)) = true → canonB a = canonB b) := fun h1 h2 => by unfold canonB; rw [inB_antisymm h1 h2]
            have CBC := hid (fun w => in_any b c w (by omega) (by omega) HWB.out)
            have CBA := hid (fun w => in_any b a w (by omega) (by omega) HWB.out)
            generalize inB (lowL (bl a)) (lowL (bl b)) = AB at *
            generalize inB (lowL (bl a)) (lowL (bl c)) = AC at *
            generalize inB (lowL (bl b)) (lowL (bl c)) = BC at *
            generalize inB (lowL (bl b)) (lowL (bl a)) = BA at *
            go_upto_region 16 with fail
            go_cut [55] from 12 (fun s55 wd => s55 = .bool false ∧ Boxes3 w wd pa pb pc a b c)
            case first =>
              cases AB
              · go_wp2
                go_meet
                case rel => exact ⟨rfl, B0.out⟩
              · cases BC
                · go_wp2_with (go_at_call 16; refine Calls.mono (CBC.out _) ?_; rintro e w1 ⟨rfl, hb1⟩; have B1 := hid (B0.out.on hb1); clear hb1)
                  go_meet
                  case rel => exact ⟨rfl, B1.out⟩
                · obtain rfl := TR.out rfl rfl
                  go_wp2_with (go_at_call 16; refine Calls.mono (CBC.out _) ?_; rintro e w1 ⟨rfl, hb1⟩; have B1 := hid (B0.out.on hb1); clear hb1)
                  go_meet
                  case rel => exact ⟨rfl, B1.out⟩
            case rest =>
              obtain ⟨rfl, hB⟩ := hcut
              clear ca cb cc B0
              have B0 := hid hB
              have ca := hB.ca
              have cb := hB.cb
              clear hB
              go_upto_region 18 with fail
              go_cut [68] from 12 (fun s68 wd => s68 = .bool false ∧ Boxes3 w wd pa pb pc a b c)
              case first =>
                cases AB
                · go_quiet (fail)
                  go_wp2_with fail
                  go_meet
                  case rel => exact ⟨rfl, B0.out.drewN nq⟩
                · cases BA
                  · go_region_with (go_at_call 16; refine Calls.mono (CBA.out _) ?_; rintro e w1 ⟨rfl, hb1⟩; have B1 := hid (B0.out.drew.on hb1); obtain ⟨hc, hf⟩ := bcell hb1; clear hb1)
                    all_goals
                      go_wp2_with fail
                      go_meet
                      case rel => exact ⟨rfl, B1.out⟩
                  · have hq : ((canonB a).toList == (canonB b).toList) = true := by rw [AS.out rfl rfl]; simp
                    go_region_held3 (fun w' => w'.cell? ⟨pa, 0, none⟩ = some (.string a) ∧ w'.cell? ⟨pb, 0, none⟩ = some (.string b)) (go_keep) (first | (go_at_call 16; refine Calls.mono (CBA.out _) ?_; rintro e w1 ⟨rfl, hb1⟩; have B1 := hid (B0.out.drew.on hb1); have ca1 := B1.out.ca; have cb1 := B1.out.cb; clear hb1) | (go_at_call_of 11 a; refine (canon_any a _ (by omega)).mono ?_; rintro e w2 ⟨rfl, hb2⟩; have B2 := hid (B1.out.on hb2); have ca2 := B2.out.ca; have cb2 := B2.out.cb; clear hb2) | (go_at_call_of 11 b; refine (canon_any b _ (by omega)).mono ?_; rintro e w3 ⟨rfl, hb3⟩; have B3 := hid (B2.out.on hb3); have ca3 := B3.out.ca; have cb3 := B3.out.cb; clear hb3))
                    go_wp2_with fail
                    go_meet
                    case rel => exact ⟨rfl, B3.out⟩
              case rest =>
                obtain ⟨rfl, hB⟩ := hcut
                cases AB
                · cases AC
                  · go_wp2
                    go_ret
                    exact ⟨rfl, hB.bel⟩
                  · have hl := LAC.out rfl
                    go_wp2
                    go_ret
                    exact ⟨rfl, hB.bel⟩
                · have hl2 := LAB.out rfl
                  cases AC
                  · go_wp2
                    go_ret
                    exact ⟨rfl, hB.bel⟩
                  · have hl := LAC.out rfl
                    go_wp2
                    go_ret
                    exact ⟨rfl, hB.bel⟩

end Go.Proofs.Qxb6601878a
