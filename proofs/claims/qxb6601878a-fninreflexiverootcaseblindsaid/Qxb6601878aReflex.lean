/- The walk of FnInReflexiveRootCaseBlind. -/
import Derived.Test.Qxb6601878aUpper
namespace Go.Proofs.Qxb6601878a
open Go.RowKit
attribute [local go_sem ↓] Go.wp_at_zero Go.wp_at_succ

theorem reflex_start {w w1 : World} {n z u : ByteArray} {o : Obj}
    (hb : Below ((((w.alloc (.cells #[.string n] 24)).alloc (.cells #[.string n] 24)).alloc (.cells #[.string z] 24)).alloc (.cells #[.string z] 24)).heap.size ((((w.alloc (.cells #[.string n] 24)).alloc (.cells #[.string n] 24)).alloc (.cells #[.string z] 24)).alloc (.cells #[.string z] 24)) w1) :
    Boxes3 w ((w1.alloc o).alloc (.cells #[.string u] 24)) (w.heap.size + 1) (w.heap.size + 1 + 1 + 1) (w1.heap.size + 1) n z u := by
  have ha : ((((w.alloc (.cells #[.string n] 24)).alloc (.cells #[.string n] 24)).alloc (.cells #[.string z] 24)).alloc (.cells #[.string z] 24)).heap[w.heap.size + 1]? = some (.cells #[.string n] 24 (0, 0)) := by
    rw [Below.heap_alloc _ _ _ (by simp <;> omega), Below.heap_alloc _ _ _ (by simp)]
    have := heap_alloc_new (w.alloc (.cells #[.string n] 24)) (.cells #[.string n] 24)
    rwa [show (w.alloc (.cells #[.string n] 24)).heap.size = w.heap.size + 1 by simp] at this
  have hz : ((((w.alloc (.cells #[.string n] 24)).alloc (.cells #[.string n] 24)).alloc (.cells #[.string z] 24)).alloc (.cells #[.string z] 24)).heap[w.heap.size + 1 + 1 + 1]? = some (.cells #[.string z] 24 (0, 0)) := by
    have := heap_alloc_new (((w.alloc (.cells #[.string n] 24)).alloc (.cells #[.string n] 24)).alloc (.cells #[.string z] 24)) (.cells #[.string z] 24)
    rwa [show (((w.alloc (.cells #[.string n] 24)).alloc (.cells #[.string n] 24)).alloc (.cells #[.string z] 24)).heap.size = w.heap.size + 1 + 1 + 1 by simp] at this
  have hs : ((((w.alloc (.cells #[.string n] 24)).alloc (.cells #[.string n] 24)).alloc (.cells #[.string z] 24)).alloc (.cells #[.string z] 24)).heap.size = w.heap.size + 1 + 1 + 1 + 1 := by simp
  have hsz := hb.size
  rw [hs] at hsz hb
  have hu := heap_alloc_new (w1.alloc o) (.cells #[.string u] 24)
  rw [show (w1.alloc o).heap.size = w1.heap.size + 1 by simp] at hu
  refine ⟨?_, ?_, by rw [cell_of_row _ _ 0 _ _ _ hu]; rfl, ?_⟩
  · rw [cell_of_row _ _ 0 _ _ _ ((Below.heap_alloc _ _ _ (by simp <;> omega)).trans ((Below.heap_alloc _ _ _ (by omega)).trans ((hb.block _ (by omega)).trans ha)))]; rfl
  · rw [cell_of_row _ _ 0 _ _ _ ((Below.heap_alloc _ _ _ (by simp <;> omega)).trans ((Below.heap_alloc _ _ _ (by omega)).trans ((hb.block _ (by omega)).trans hz)))]; rfl
  · have h0 : Below w.heap.size w ((((w.alloc (.cells #[.string n] 24)).alloc (.cells #[.string n] 24)).alloc (.cells #[.string z] 24)).alloc (.cells #[.string z] 24)) :=
      ((((Below.refl _ _).alloc (Nat.le_refl _) _).alloc (by simp) _).alloc (by simp <;> omega) _).alloc (by simp <;> omega) _
    exact ((h0.trans (hb.mono (by omega))).alloc (by omega) _).alloc (by simp <;> omega) _

set_option maxRecDepth 100000 in
set_option maxHeartbeats 1000000 in
theorem reflex_core (n z : ByteArray) (w : World) (hn : n.size ≤ maxLen) (hz : z.size ≤ maxLen) :
    Calls Try.prog 5 #[.string n, .string z] w fun e w' => e = .returned (.bool true) ∧ Below w.heap.size w w' := by
  have HN := hid hn
  have HZ := hid hz
  unfold maxLen at hn hz
  go_enter Try.func5, Try.ntmps5
  go_wp2_with fail
  refine (bytes18 n z w HN.out HZ.out).mono ?_
  rintro e w' ⟨⟨x, rfl⟩, rfl⟩
  cases x with
  | false =>
    go_wp2
    go_ret
    exact ⟨rfl, Below.refl _ _⟩
  | true =>
    by_cases h1 : 524288 < n.size
    · go_wp2
      go_ret
      exact ⟨rfl, Below.refl _ _⟩
    by_cases h2 : 524288 < z.size
    · go_wp2
      go_ret
      exact ⟨rfl, Below.refl _ _⟩
    cases hwa : wf (bl n) with
    | false =>
      go_wp2_with (go_at_call 15; refine (wf_any _ _ (by omega)).mono ?_; rintro e w' ⟨rfl, rfl⟩)
      go_ret
      exact ⟨rfl, Below.refl _ _⟩
    | true =>
      go_upto_region 11 with (first | (go_at_call 15; refine (wf_any _ _ (by omega)).mono ?_; rintro e w' ⟨rfl, rfl⟩) | (go_at_call 10; refine (make_any _ _).mono ?_; rintro e w' ⟨rfl, rfl⟩))
      have HWN := hid hwa
      clear hwa
      obtain ⟨u, hu⟩ : ∃ u, u = upB n := ⟨_, rfl⟩
      have husz : u.size = n.size := by rw [hu, upB_size]
      have hus : u.size ≤ 1048576 := by omega
      have HU := hid hu
      clear husz hu
      go_cut [5, 6, 7] from 9 (fun s5 s6 s7 wd => ∃ pn pz pu, s5 = .pointer (some ⟨pn, 0, none⟩) ∧ s6 = .pointer (some ⟨pz, 0, none⟩) ∧ s7 = .pointer (some ⟨pu, 0, none⟩) ∧ Boxes3 w wd pn pz pu n z u)
      case first =>
        go_wp2_with fail
        refine (upper_any n _ (by omega)).mono ?_
        rintro e w1 ⟨rfl, hb1⟩
        rw [← HU.out]
        have HB := hid hb1
        clear hb1
        go_wp2_with (go_at_call 10; refine (make_any _ _).mono ?_; rintro e w' ⟨rfl, rfl⟩)
        go_meet
        case rel => exact ⟨_, _, _, rfl, rfl, rfl, reflex_start HB.out⟩
      case rest =>
        obtain ⟨pn, pz, pu, rfl, rfl, rfl, hB⟩ := hcut
        have B0 := hid hB
        have cn := hB.ca
        have cz := hB.cb
        have cu := hB.cc
        clear hB
        have EU : Hid (lowL (bl u) = lowL (bl n)) := by rw [HU.out, bl_upB]; exact lowL_up _
        have e1 : inB (lowL (bl n)) (lowL (bl n)) = true := inB_refl _
        have e2 : inB (lowL (bl n)) (lowL (bl u)) = true := by rw [EU.out]; exact inB_refl _
        have e3 : inB (lowL (bl n)) (lowL (bl ⟨#[]⟩)) = true := inB_root _
        have WU : Hid (wf (bl u) = true) := by rw [HU.out, bl_upB]; exact wf_up _ _ (Nat.le_refl _) HWN.out
        have C1 : Hid (∀ w, Calls Try.prog 16 #[.agg #[.string n], .agg #[.string n]] w fun e w' => e = .returned (.bool true) ∧ Below w.heap.size w w') := fun w => by have := in_any n n w (by omega) (by omega) HWN.out; rwa [e1] at this
        have C2 : Hid (∀ w, Calls Try.prog 16 #[.agg #[.string n], .agg #[.string u]] w fun e w' => e = .returned (.bool true) ∧ Below w.heap.size w w') := fun w => by have := in_any n u w (by omega) (by omega) HWN.out; rwa [e2] at this
        have C3 : Hid (∀ w, Calls Try.prog 16 #[.agg #[.string n], .agg #[.string ⟨#[]⟩]] w fun e w' => e = .returned (.bool true) ∧ Below w.heap.size w w') := fun w => by have := in_any n ⟨#[]⟩ w (by omega) (Nat.zero_le _) HWN.out; rwa [e3] at this
        clear e1 e2 e3
        go_upto_region 12 with fail
        go_cut [44] from 9 (fun s44 wd => s44 = .bool false ∧ Boxes3 w wd pn pz pu n z u)
        case first =>
          go_region_held3 (fun w' => w'.cell? ⟨pn, 0, none⟩ = some (.string n) ∧ w'.cell? ⟨pu, 0, none⟩ = some (.string u)) (go_keep) (first | (go_at_call_of 16 u; refine Calls.mono (C2.out _) ?_; rintro e w2 ⟨rfl, hb2⟩; have B2 := hid (B1.out.on hb2); have cn2 := B2.out.ca; have cu2 := B2.out.cc; clear hb2) | (go_at_call 10; refine (make_any _ _).mono ?_; rintro e w3 ⟨rfl, rfl⟩; have B3 := hid (B2.out.on ((Below.refl _ _).alloc (Nat.le_refl _) (.cells #[.string ⟨#[]⟩] 24))); have cn3 := B3.out.ca; have cu3 := B3.out.cc) | (go_at_call_of 16 (⟨#[]⟩ : ByteArray); refine Calls.mono (C3.out _) ?_; rintro e w4 ⟨rfl, hb4⟩; have B4 := hid (B3.out.on hb4); have cn4 := B4.out.ca; have cu4 := B4.out.cc; clear hb4) | (go_at_call 16; refine Calls.mono (C1.out _) ?_; rintro e w1 ⟨rfl, hb1⟩; have B1 := hid (B0.out.drew.on hb1); have cn1 := B1.out.ca; have cu1 := B1.out.cc; clear hb1))
          go_wp2_with fail
          go_meet
          case rel => exact ⟨rfl, B4.out⟩
        case rest =>
          obtain ⟨rfl, hB⟩ := hcut
          clear B0 cn cz cu C1 C2 C3
          have B0 := hid hB
          have cn := hB.ca
          have cz := hB.cb
          clear hB
          obtain ⟨r, hr⟩ : ∃ r, r = inB (lowL (bl n)) (lowL (bl z)) := ⟨_, rfl⟩
          have C0 : Hid (∀ w, Calls Try.prog 16 #[.agg #[.string n], .agg #[.string z]] w fun e w' => e = .returned (.bool r) ∧ Below w.heap.size w w') := fun w => by rw [hr]; exact in_any n z w (by omega) (by omega) HWN.out
          have C1 : Hid (∀ w, Calls Try.prog 16 #[.agg #[.string n], .agg #[.string (canonB z)]] w fun e w' => e = .returned (.bool r) ∧ Below w.heap.size w w') := fun w => by
            have := in_any n (canonB z) w (by omega) (by rw [canonB_size]; omega) HWN.out
            rw [bl_canonB, lowL_low, ← hr] at this
            exact this
          have C2 : Hid (∀ w, Calls Try.prog 16 #[.agg #[.string (canonB n)], .agg #[.string z]] w fun e w' => e = .returned (.bool r) ∧ Below w.heap.size w w') := fun w => by
            have := in_any (canonB n) z w (by rw [canonB_size]; omega) (by omega) (by rw [bl_canonB]; exact wf_lowL HWN.out)
            rw [bl_canonB, lowL_low, ← hr] at this
            exact this
          have C3 : Hid (∀ w, Calls Try.prog 16 #[.agg #[.string u], .agg #[.string z]] w fun e w' => e = .returned (.bool r) ∧ Below w.heap.size w w') := fun w => by
            have := in_any u z w (by omega) (by omega) WU.out
            rw [EU.out, ← hr] at this
            exact this
          clear hr
          go_upto_region 14 with fail
          go_cut [8] from 9 (fun s8 wd => s8 = .bool r ∧ Boxes3 w wd pn pz pu n z u)
          case first =>
            go_wp2_with fail
            refine Calls.mono (C0.out _) ?_
            rintro e w1 ⟨rfl, hb1⟩
            have B1 := hid (B0.out.on hb1)
            clear hb1
            go_wp2
            go_meet
            case rel => exact ⟨rfl, B1.out⟩
          case rest =>
            obtain ⟨rfl, hB⟩ := hcut
            clear B0 cn cz
            have B0 := hid hB
            have cn := hB.ca
            have cz := hB.cb
            clear hB
            go_upto_region 15 with fail
            go_cut [53] from 9 (fun s53 wd => s53 = .bool false ∧ Boxes3 w wd pn pz pu n z u)
            case first =>
              go_region_held3 (fun w' => w'.cell? ⟨pn, 0, none⟩ = some (.string n) ∧ w'.cell? ⟨pz, 0, none⟩ = some (.string z)) (go_keep) (first | (go_at_call 11; refine (canon_any z _ (by omega)).mono ?_; rintro e w1 ⟨rfl, hb1⟩; have B1 := hid (B0.out.drew.on hb1); have cn1 := B1.out.ca; have cz1 := B1.out.cb; clear hb1) | (go_at_call 16; refine Calls.mono (C1.out _) ?_; rintro e w2 ⟨rfl, hb2⟩; have B2 := hid (B1.out.on hb2); have cn2 := B2.out.ca; have cz2 := B2.out.cb; clear hb2))
              all_goals
                go_wp2_with fail
                go_meet
                case rel => exact ⟨by simp, B2.out⟩
            case rest =>
              obtain ⟨rfl, hB⟩ := hcut
              clear B0 cn cz
              have B0 := hid hB
              have cn := hB.ca
              have cz := hB.cb
              clear hB
              go_upto_region 17 with fail
              go_cut [59] from 9 (fun s59 wd => s59 = .bool false ∧ Boxes3 w wd pn pz pu n z u)
              case first =>
                go_region_held3 (fun w' => w'.cell? ⟨pn, 0, none⟩ = some (.string n) ∧ w'.cell? ⟨pz, 0, none⟩ = some (.string z)) (go_keep) (first | (go_at_call 11; refine (canon_any n _ (by omega)).mono ?_; rintro e w1 ⟨rfl, hb1⟩; have B1 := hid (B0.out.drew.on hb1); have cn1 := B1.out.ca; have cz1 := B1.out.cb; clear hb1) | (go_at_call 16; refine Calls.mono (C2.out _) ?_; rintro e w2 ⟨rfl, hb2⟩; have B2 := hid (B1.out.on hb2); have cn2 := B2.out.ca; have cz2 := B2.out.cb; clear hb2))
                all_goals
                  go_wp2_with fail
                  go_meet
                  case rel => exact ⟨by simp, B2.out⟩
              case rest =>
                obtain ⟨rfl, hB⟩ := hcut
                have cu := hB.cc
                have cz' := hB.cb
                have B1 := hid hB
                clear B0 cn cz hB
                go_wp2_with fail
                refine Calls.mono (C3.out _) ?_
                rintro e w1 ⟨rfl, hb1⟩
                have B2 := hid (B1.out.on hb1)
                clear hb1
                go_wp2
                go_ret
                exact ⟨rfl, B2.out.bel⟩

end Go.Proofs.Qxb6601878a
