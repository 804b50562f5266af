/- The label-suffix model: the plain law, and the walks of zzCountLabels, zzLowerByte, zzInModel. -/
import Derived.Test.Qxb6601878aUpper
import Derived.Deep.QuietTactic
import Derived.BigQuiet
namespace Go.Proofs.Qxb6601878a
open Go.RowKit
attribute [local go_sem ↓] Go.wp_at_zero Go.wp_at_succ

/-- How many labels? -/
def cntF : Nat → List UInt8 → Nat
  | _, [] => 0
  | 0, _ :: _ => 0
  | f + 1, c :: t => cntF f (t.drop c.toNat) + 1
def cnt (l : List UInt8) : Nat := cntF l.length l

theorem cntF_more : ∀ (f g : Nat) (l : List UInt8), l.length ≤ f → l.length ≤ g → cntF f l = cntF g l
  | f, g, [], _, _ => by cases f <;> cases g <;> rfl
  | 0, _, c :: t, h, _ => by simp at h
  | _ + 1, 0, c :: t, _, h => by simp at h
  | f + 1, g + 1, c :: t, hf, hg => by
    simp only [List.length_cons] at hf hg
    unfold cntF
    rw [cntF_more f g (t.drop c.toNat) (by simp; omega) (by simp; omega)]

theorem cnt_nil : cnt [] = 0 := rfl
theorem cnt_cons (c : UInt8) (t : List UInt8) : cnt (c :: t) = cnt (t.drop c.toNat) + 1 := by
  unfold cnt
  rw [show (c :: t).length = t.length + 1 from rfl]
  conv => lhs; unfold cntF
  rw [cntF_more t.length (t.drop c.toNat).length (t.drop c.toNat) (by simp) (Nat.le_refl _)]

theorem cnt_step (l : List UInt8) : cnt (step l) = cnt l - 1 := by
  cases l with
  | nil => rfl
  | cons c t => rw [cnt_cons]; rfl
theorem cnt_iter (k : Nat) (l : List UInt8) : cnt (iter k l) = cnt l - k := by
  induction k generalizing l with
  | zero => rfl
  | succ k ih =>
    show cnt (iter k (step l)) = _
    rw [ih, cnt_step]; omega
theorem cnt_zero {l : List UInt8} (h : cnt l = 0) : l = [] := by
  cases l with
  | nil => rfl
  | cons c t => rw [cnt_cons] at h; omega

theorem cnt_le : ∀ (n : Nat) (l : List UInt8), l.length ≤ n → cnt l ≤ l.length
  | _, [], _ => Nat.le_refl _
  | 0, c :: t, h => by simp at h
  | n + 1, c :: t, h => by
    simp only [List.length_cons] at h
    have := cnt_le n (t.drop c.toNat) (by rw [List.length_drop]; omega)
    rw [List.length_drop] at this
    rw [cnt_cons, List.length_cons]
    omega

theorem wf_step {l : List UInt8} (h : wf l = true) : wf (step l) = true := by
  cases l with
  | nil => exact h
  | cons c t =>
    rw [wf_cons] at h
    simp only [Bool.and_eq_true] at h
    exact h.2.2
theorem wf_iter (k : Nat) {l : List UInt8} (h : wf l = true) : wf (iter k l) = true := by
  induction k generalizing l with
  | zero => exact h
  | succ k ih => exact ih (wf_step h)

theorem step_low {l : List UInt8} (h : wf l = true) : step (lowL l) = lowL (step l) := by
  cases l with
  | nil => rfl
  | cons c t =>
    rw [wf_cons] at h
    simp only [Bool.and_eq_true, decide_eq_true_eq] at h
    show (lowL t).drop (low c).toNat = lowL (t.drop c.toNat)
    rw [low_small h.1, lowL_drop]
theorem iter_low (k : Nat) {l : List UInt8} (h : wf l = true) : iter k (lowL l) = lowL (iter k l) := by
  induction k generalizing l with
  | zero => rfl
  | succ k ih =>
    show iter k (step (lowL l)) = lowL (iter k (step l))
    rw [step_low h, ih (wf_step h)]

theorem wf_back : ∀ (n : Nat) (l : List UInt8), l.length ≤ n → wf (lowL l) = true → wf l = true ∧ cnt (lowL l) = cnt l
  | _, [], _, _ => ⟨rfl, rfl⟩
  | 0, c :: t, h, _ => by simp at h
  | n + 1, c :: t, h, hw => by
    simp only [List.length_cons] at h
    have e : lowL (c :: t) = low c :: lowL t := rfl
    rw [e, wf_cons] at hw
    simp only [Bool.and_eq_true, decide_eq_true_eq] at hw
    obtain ⟨h1, h2, h3⟩ := hw
    obtain ⟨h4, h5⟩ := small_of_low h1
    rw [h4, lowL_length] at h2
    rw [h4, lowL_drop] at h3
    obtain ⟨h6, h7⟩ := wf_back n (t.drop c.toNat) (by rw [List.length_drop]; omega) h3
    refine ⟨?_, ?_⟩
    · rw [wf_cons, h6]; simp [h5, h2]
    · rw [e, cnt_cons, cnt_cons, h4, lowL_drop, h7]

theorem wf_of_lowL {l : List UInt8} (h : wf (lowL l) = true) : wf l = true := (wf_back l.length l (Nat.le_refl _) h).1
theorem cnt_lowL {l : List UInt8} (h : wf l = true) : cnt (lowL l) = cnt l := (wf_back l.length l (Nat.le_refl _) (wf_lowL h)).2

/-- The model. -/
def model (l z : List UInt8) : Bool := wf z && (decide (cnt z ≤ cnt l) && (lowL (iter (cnt l - cnt z) l) == lowL z))

theorem model_in {l : List UInt8} (h : wf l = true) (z : List UInt8) : inB (lowL l) (lowL z) = model l z := by
  rw [Bool.eq_iff_iff, inB_iff]
  unfold model
  simp only [Bool.and_eq_true, decide_eq_true_eq, beq_iff_eq]
  constructor
  · rintro ⟨k, e⟩
    rw [iter_low k h] at e
    have hz : wf z = true := wf_of_lowL (by rw [← e]; exact wf_lowL (wf_iter k h))
    have hc : cnt z = cnt l - k := by rw [← cnt_lowL hz, ← e, cnt_lowL (wf_iter k h), cnt_iter]
    refine ⟨hz, by omega, ?_⟩
    by_cases hk : k ≤ cnt l
    · rw [show cnt l - cnt z = k by omega]; exact e
    · have hz0 : z = [] := cnt_zero (by omega)
      rw [hz0, cnt_nil, show iter (cnt l - 0) l = [] from cnt_zero (by rw [cnt_iter]; omega)]
  · rintro ⟨_, _, e⟩
    exact ⟨_, by rw [iter_low _ h, e]⟩

/-! ### The walks -/

theorem cnt_at (s : ByteArray) (i : Nat) (h : i < s.size) : cnt ((bl s).drop i) = cnt ((bl s).drop (i + 1 + s[i].toNat)) + 1 := by
  rw [bl_drop s i h, cnt_cons, List.drop_drop]

set_option maxHeartbeats 400000 in
theorem cnt_any (s : ByteArray) (w : World) (hs : s.size ≤ 1048576) (hwf : wf (bl s) = true) :
    Calls Try.prog 24 #[.string s] w fun e w' => e = .returned (.int .i64 (cnt (bl s) : Nat)) ∧ w = w' := by
  have HWF := hid hwf
  clear hwf
  go_enter Try.func24, Try.ntmps24
  go_wp2
  go_loop [3, 4] (fun s3 t => ∃ m i : Nat, i ≤ s.size ∧ m ≤ i ∧ s3 = .int .i64 (m : Nat) ∧ t = .int .i64 (i : Nat) ∧ Hid (wf ((bl s).drop i) = true ∧ m + cnt ((bl s).drop i) = cnt (bl s))) (fun _ t => s.size - (intOf t).toNat)
  case atStart => exact ⟨0, 0, Nat.zero_le _, Nat.zero_le _, rfl, rfl, hid ⟨HWF.out, Nat.zero_add _⟩⟩
  case round =>
    obtain ⟨m, i, hi, hm, rfl, rfl, hr⟩ := hrel
    by_cases hlt : i < s.size
    · obtain ⟨h1, h2, h3⟩ := wf_parts hlt hr.out.1
      have H3 := hid h3
      have HC := hid (cnt_at s i hlt)
      clear h3
      go_wp2
      go_round
      case rel => exact ⟨m + 1, i + 1 + (s[i]'hlt).toNat, h2, by omega, by go_num, by go_num, hid ⟨H3.out, by have := hr.out.2; rw [HC.out] at this; omega⟩⟩
      case measure => simp [intOf]; omega
    · go_wp2
      go_ret
      have h := hr.out.2
      rw [List.drop_of_length_le (by rw [bl_length]; omega), cnt_nil, Nat.add_zero] at h
      exact ⟨by rw [← h]; rfl, rfl⟩

theorem low_any (c : UInt8) (w : World) :
    Calls Try.prog 25 #[.int .u8 (c.toNat : Nat)] w fun e w' => e = .returned (.int .u8 ((low c).toNat : Nat)) ∧ w = w' := by
  have hc := c.toNat_lt
  have HL := hid (low_toNat c)
  go_enter Try.func25, Try.ntmps25
  by_cases h1 : 65 ≤ c.toNat
  · by_cases h2 : c.toNat ≤ 90
    · go_wp2
      go_ret
      exact ⟨by rw [HL.out, if_pos ⟨h1, h2⟩]; go_num, rfl⟩
    · go_wp2
      go_ret
      exact ⟨by rw [HL.out, if_neg (by omega)]; rfl, rfl⟩
  · go_wp2
    go_ret
    exact ⟨by rw [HL.out, if_neg (by omega)]; rfl, rfl⟩

theorem iter_next (k : Nat) (l : List UInt8) : iter (k + 1) l = step (iter k l) := by rw [iter_add k 1]; rfl

theorem skip_one {s : ByteArray} {A o k : Nat} (hwf : wf (bl s) = true) (hA : cnt (bl s) = A) (hr : (bl s).drop o = iter k (bl s)) (hk : k < A) :
    ∃ h : o < s.size, o + 1 + (s[o]'h).toNat ≤ s.size ∧ (bl s).drop (o + 1 + (s[o]'h).toNat) = iter (k + 1) (bl s) := by
  have hc := cnt_iter k (bl s)
  have hlt : o < s.size := by
    rcases Nat.lt_or_ge o s.size with h | h
    · exact h
    · rw [← hr, List.drop_of_length_le (by rw [bl_length]; exact h), cnt_nil] at hc; omega
  have hw := wf_iter k hwf
  rw [← hr] at hw
  obtain ⟨_, h2, _⟩ := wf_parts hlt hw
  refine ⟨hlt, h2, ?_⟩
  rw [iter_next, ← hr, bl_drop s o hlt]
  show _ = ((bl s).drop (o + 1)).drop s[o].toNat
  rw [List.drop_drop]

theorem low_ne {a b : List UInt8} (h : ¬ a.length = b.length) : false = (lowL a == lowL b) := by
  cases e : (lowL a == lowL b) with
  | false => rfl
  | true =>
    have := congrArg List.length (eq_of_beq e)
    rw [lowL_length, lowL_length] at this
    exact absurd this h

theorem low_next (l z : ByteArray) (o j : Nat) (h1 : o + j < l.size) (h2 : j < z.size) : (lowL ((bl l).drop (o + j)) == lowL ((bl z).drop j)) = (low l[o + j] == low z[j] && lowL ((bl l).drop (o + (j + 1))) == lowL ((bl z).drop (j + 1))) := by
  rw [bl_drop l (o + j) h1, bl_drop z j h2]
  rfl

theorem Below.drewN' {B : Nat} {a w : World} (h : Below B a w) (k : Nat) : Below B a (w.drewN k) := ⟨h.os, h.tape, h.output, h.size, h.block⟩

set_option maxHeartbeats 400000 in
theorem model_any (l z : ByteArray) (w : World) (hs : l.size ≤ 1048576) (hz : z.size ≤ 1048576) (hwf : wf (bl l) = true) :
    Calls Try.prog 17 #[.string l, .string z] w fun e w' => e = .returned (.bool (model (bl l) (bl z))) ∧ Below w.heap.size w w' := by
  have HWF := hid hwf
  clear hwf
  go_enter Try.func17, Try.ntmps17
  go_wp2_with fail
  refine (wf_any z _ hz).mono ?_
  rintro e w' ⟨rfl, rfl⟩
  cases hwz : wf (bl z)
  · go_wp2
    go_ret
    exact ⟨ret_bool (by unfold model; rw [hwz]; rfl), Below.refl _ _⟩
  · have HWZ := hid hwz
    clear hwz
    go_wp2_with fail
    refine (cnt_any l _ hs HWF.out).mono ?_
    rintro e w' ⟨rfl, rfl⟩
    go_wp2_with fail
    refine (cnt_any z _ hz HWZ.out).mono ?_
    rintro e w' ⟨rfl, rfl⟩
    have hA : cnt (bl l) ≤ l.size := cnt_le _ _ (Nat.le_refl _)
    have hB : cnt (bl z) ≤ z.size := cnt_le _ _ (Nat.le_refl _)
    have HM : Hid (model (bl l) (bl z) = (decide (cnt (bl z) ≤ cnt (bl l)) && (lowL (iter (cnt (bl l) - cnt (bl z)) (bl l)) == lowL (bl z)))) := by unfold model; rw [HWZ.out]; rfl
    generalize hAe : cnt (bl l) = A at *
    generalize cnt (bl z) = B at *
    have HAE := hid hAe
    clear hAe
    by_cases hle : B ≤ A
    · have HMI : Hid (model (bl l) (bl z) = (lowL (iter (A - B) (bl l)) == lowL (bl z))) := hid (by rw [HM.out]; simp [hle])
      clear HM
      go_upto_block 0 with fail
      go_cut [7, 8] from 10 (fun s7 s8 wd => (∃ o : Nat, o ≤ l.size ∧ s7 = .int .i64 (o : Nat) ∧ Hid ((bl l).drop o = iter (A - B) (bl l))) ∧ w = wd)
      case first =>
        go_wp2
        go_loop [7, 8] (fun s7 s8 => ∃ o k : Nat, o ≤ l.size ∧ k ≤ A - B ∧ s7 = .int .i64 (o : Nat) ∧ s8 = .int .i64 (k : Nat) ∧ Hid ((bl l).drop o = iter k (bl l))) (fun _ t => (A - B) - (intOf t).toNat)
        case atStart => exact ⟨0, 0, Nat.zero_le _, Nat.zero_le _, rfl, rfl, rfl⟩
        case round =>
          obtain ⟨o, k, ho, hk, rfl, rfl, hr⟩ := hrel
          by_cases hlt : k < A - B
          · obtain ⟨hol, h2, h3⟩ := skip_one HWF.out HAE.out hr.out (by omega)
            have hb : (l[o]'hol).toNat < 256 := UInt8.toNat_lt _
            have H3 := hid h3
            clear h3
            go_wp2
            go_round
            case rel => exact ⟨o + 1 + (l[o]'hol).toNat, k + 1, h2, by omega, by go_num, by go_num, H3⟩
            case measure => simp [intOf]; omega
          · obtain rfl : k = A - B := by omega
            go_wp2
            go_meet
            case rel => exact ⟨⟨o, ho, rfl, hr⟩, rfl⟩
      case rest =>
        obtain ⟨⟨o, ho, rfl, hr⟩, rfl⟩ := hcut
        have HMO : Hid (model (bl l) (bl z) = (lowL ((bl l).drop o) == lowL (bl z))) := hid (by rw [HMI.out, hr.out])
        clear HMI hr
        by_cases hlen : l.size - o = z.size
        · go_wp2
          go_loopw [9] (fun t wr => ∃ j : Nat, j ≤ z.size ∧ t = .int .i64 (j : Nat) ∧ Hid ((lowL ((bl l).drop o) == lowL (bl z)) = (lowL ((bl l).drop (o + j)) == lowL ((bl z).drop j))) ∧ Below w.heap.size w wr) (fun t _ => z.size - (intOf t).toNat)
          case atStart => exact ⟨0, Nat.zero_le _, rfl, rfl, Below.refl _ _⟩
          case round =>
            obtain ⟨j, hj, rfl, hr, hbl⟩ := hrel
            have HB := hid hbl
            clear hbl
            by_cases hlt : j < z.size
            · have hol : o + j < l.size := by omega
              have HST := hid (low_next l z o j hol hlt)
              have hi1 : (0 : Int) ≤ (o : Int) + (j : Int) := by omega
              have hi2 : (o : Int) + (j : Int) < (l.size : Int) := by omega
              have hi3 : ((o : Int) + (j : Int)).toNat = o + j := by omega
              by_cases hq : low (l[o + j]'hol) = low (z[j]'hlt)
              · have HQ := hid hq
                clear hq
                go_wp2_with fail
                go_quiet ((go_at_call 25; exact Calls.quiet_of_same ((low_any _ _).mono (fun _ _ h => ⟨h.1, h.2.symm⟩))))
                rw [HQ.out]
                go_wp2
                go_roundw
                case rel => exact ⟨j + 1, by omega, by go_num, hr.out.trans (by rw [HST.out, HQ.out]; simp), Below.drewN' HB.out nq⟩
                case measure => simp [intOf]; omega
              · have hq2 : ¬ ((low (l[o + j]'hol)).toNat : Int) = ((low (z[j]'hlt)).toNat : Int) := fun h => hq (UInt8.toNat_inj.1 (by omega))
                have HQ := hid hq
                clear hq
                go_wp2_with fail
                go_quiet ((go_at_call 25; exact Calls.quiet_of_same ((low_any _ _).mono (fun _ _ h => ⟨h.1, h.2.symm⟩))))
                go_wp2
                go_ret
                exact ⟨ret_bool (by rw [HMO.out, hr.out, HST.out]; simp [HQ.out]), Below.drewN' HB.out nq⟩
            · obtain rfl : j = z.size := by omega
              go_wp2
              go_ret
              exact ⟨ret_bool (by rw [HMO.out, hr.out, List.drop_of_length_le (by rw [bl_length]; omega), List.drop_of_length_le (by rw [bl_length]; omega)]; rfl), HB.out⟩
        · go_wp2
          go_ret
          exact ⟨ret_bool (by rw [HMO.out]; exact low_ne (a := (bl l).drop o) (b := bl z) (by rw [List.length_drop, bl_length, bl_length]; exact hlen)), Below.refl _ _⟩
    · go_wp2
      go_ret
      exact ⟨ret_bool (by rw [HM.out]; simp [hle]), Below.refl _ _⟩

end Go.Proofs.Qxb6601878a
