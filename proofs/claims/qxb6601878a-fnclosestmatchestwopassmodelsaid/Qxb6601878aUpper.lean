/- zzUpper, and the bound on two strings' lengths. -/
import Derived.Test.Qxb6601878aOrdered
namespace Go.Proofs.Qxb6601878a
open Go.RowKit

theorem info5 : (Try.prog.info? 5).map (fun i => (i.zero, i.size, i.bytes)) = some (some (.int .u8 0), 1, 1) := by kernel_rfl

def upB (s : ByteArray) : ByteArray := ofL ((bl s).map up)
theorem bl_upB (s : ByteArray) : bl (upB s) = (bl s).map up := rfl
theorem upB_size (s : ByteArray) : (upB s).size = s.size := by rw [upB, ofL_size, List.length_map, bl_length]

theorem up_small {c : UInt8} (h : c.toNat ≤ 63) : up c = c := by
  unfold up
  rw [if_neg (by omega)]

theorem wf_up : ∀ (n : Nat) (l : List UInt8), l.length ≤ n → wf l = true → wf (l.map up) = true
  | _, [], _, _ => rfl
  | 0, c :: t, h, _ => by simp at h
  | n + 1, c :: t, h, hw => by
    rw [wf_cons] at hw
    simp only [Bool.and_eq_true, decide_eq_true_eq] at hw
    obtain ⟨h1, h2, h3⟩ := hw
    rw [List.map_cons, wf_cons, up_small h1, ← List.map_drop, wf_up n (t.drop c.toNat) (by simp only [List.length_drop]; simp only [List.length_cons] at h; omega) h3, List.length_map]
    simp [h1, h2]

def upMid (s : ByteArray) (k i : Nat) : Value := .int .u8 (if i < k then ((up ((bl s).getD i 0)).toNat : Int) else 0)

theorem bl_getD (s : ByteArray) (k : Nat) (h : k < s.size) : (bl s).getD k 0 = s[k] := by
  unfold bl
  rw [List.getD, Array.getElem?_toList, Array.getElem?_eq_getElem (show k < s.data.size from h)]
  rfl

theorem up_put {w : World} {s : ByteArray} {k G : Nat} (hk : k < s.size) (v : Int) (hv : v = ((up s[k]).toNat : Int)) (h : w.rowIs G 5 s.size (upMid s k)) : (w.setCell ⟨G, k, none⟩ (.int .u8 v)).rowIs G 5 s.size (upMid s (k + 1)) := by
  refine (h.set k _).congr fun i _ => ?_
  unfold upMid
  by_cases e : i = k
  · subst e; rw [if_pos rfl, if_pos (by omega), hv, bl_getD s i hk]
  · rw [if_neg e]
    by_cases l : i < k
    · rw [if_pos l, if_pos (by omega)]
    · rw [if_neg l, if_neg (by omega)]

theorem up_back {w : World} {s : ByteArray} {k G : Nat} (hk : s.size ≤ k) (h : w.rowIs G 5 s.size (upMid s k)) : (convert 37 9 (.slice (some ⟨G, 0, none⟩) s.size s.size)).run Try.prog w = .ok (.string (upB s)) w := by
  have := run_convert_bytes_back (P := Try.prog) w 37 9 5 ⟨G, 0, none⟩ s.size ((bl s).map up) Try.underlying37 Try.underlying5 Try.underlying9 (fun j hj => by
    have hj' : j < s.size := by rw [List.length_map, bl_length] at hj; exact hj
    rw [WideShapes.add_plain, Nat.zero_add, h.cell hj']
    unfold upMid
    rw [if_pos (by omega), List.getElem_map, List.getD, List.getElem?_eq_getElem (by rw [bl_length]; exact hj')]
    rfl)
  rw [List.length_map, bl_length] at this
  exact this

set_option maxHeartbeats 400000 in
theorem upper_any (s : ByteArray) (w : World) (hs : s.size ≤ 1048576) :
    Calls Try.prog 12 #[.string s] w fun e w' => e = .returned (.string (upB s)) ∧ Below w.heap.size w w' := by
  have hmk := run_make_row' (P := Try.prog) 37 5 (.int .u8 0) 1 Try.underlying37 info5 rfl .i64 .i64 s.size (by omega) (by omega)
  go_enter Try.func12, Try.ntmps12
  go_wp2
  clear hmk
  go_loopw [4] (fun t wr => ∃ k : Nat, k ≤ s.size ∧ t = .int .i64 (k : Nat) ∧ wr.rowIs w.heap.size 5 s.size (upMid s k) ∧ Below w.heap.size w wr) (fun t _ => s.size - (intOf t).toNat)
  case atStart => exact ⟨0, Nat.zero_le _, rfl, (World.rowIs_made w (.int .u8 0) s.size 5).congr (fun i _ => by simp [upMid]), (Below.refl _ _).alloc (Nat.le_refl _) _⟩
  case round =>
    obtain ⟨k, hk, rfl, hrow, hbel⟩ := hrel
    have HR := hid hrow
    have HB := hid hbel
    by_cases hlt : k < s.size
    · have hcd := hrow.cell hlt
      have hfr := hrow.frozen k
      clear hrow hbel
      have hb : (s[k]'hlt).toNat < 256 := UInt8.toNat_lt _
      have HU := hid (up_toNat (s[k]'hlt))
      by_cases h1 : 97 ≤ (s[k]'hlt).toNat
      · by_cases h2 : (s[k]'hlt).toNat ≤ 122
        · go_wp2
          go_roundw
          case rel => exact ⟨k + 1, by omega, by go_num, up_put hlt _ (by rw [HU.out, if_pos ⟨h1, h2⟩]; omega) HR.out, HB.out.setCell (Nat.le_refl _) _⟩
          case measure => simp [intOf]; omega
        · go_wp2
          go_roundw
          case rel => exact ⟨k + 1, by omega, by go_num, up_put hlt _ (by rw [HU.out, if_neg (by omega)]) HR.out, HB.out.setCell (Nat.le_refl _) _⟩
          case measure => simp [intOf]; omega
      · go_wp2
        go_roundw
        case rel => exact ⟨k + 1, by omega, by go_num, up_put hlt _ (by rw [HU.out, if_neg (by omega)]) HR.out, HB.out.setCell (Nat.le_refl _) _⟩
        case measure => simp [intOf]; omega
    · have hcv := up_back (by omega) hrow
      clear hrow hbel
      go_wp2
      go_ret
      exact ⟨rfl, HB.out⟩

set_option maxHeartbeats 400000 in
theorem bytes18 (a b : ByteArray) (w : World) (ha : a.size ≤ maxLen) (hb : b.size ≤ maxLen) :
    Calls Try.prog 18 #[.string a, .string b] w fun e w' => IsB e ∧ w = w' := by
  unfold maxLen at ha hb
  go_enter Try.func18, Try.ntmps18
  go_wp2
  all_goals
    go_ret
    exact ⟨⟨_, rfl⟩, rfl⟩

set_option maxHeartbeats 400000 in
theorem bytes14 (a b : ByteArray) (w : World) (ha : a.size ≤ maxLen) (hb : b.size ≤ maxLen) :
    Calls Try.prog 14 #[.string a, .string b] w fun e w' => IsB e ∧ w = w' := by
  unfold maxLen at ha hb
  go_enter Try.func14, Try.ntmps14
  go_wp2
  all_goals
    go_ret
    exact ⟨⟨_, rfl⟩, rfl⟩

end Go.Proofs.Qxb6601878a
