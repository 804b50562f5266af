/- The walks of namestake's callees: ZZMake, Canonical, zzWellFormed, In, zzUpper. -/
import Derived.Test.Qxb6601878aRows
import Derived.Test.Qxb6601878aPlain
import Derived.WalkKit
import Derived.WalkSpells
import Derived.WalkLawsBesides
import Derived.Deep.OwnRows
import Derived.Laws.IdiomStrings
import Derived.BigQuiet
import Derived.Deep.QuietTactic
namespace Go.Proofs.Qxb6601878a
open Go.RowKit

theorem hid {p : Prop} (h : p) : Hid p := h
theorem ret_bool {a b : Bool} (h : a = b) : Ending.returned (.bool a) = .returned (.bool b) := by rw [h]

/-- The bytes of a string, as a list. -/
def bl (s : ByteArray) : List UInt8 := s.data.toList
def ofL (l : List UInt8) : ByteArray := ⟨l.toArray⟩
theorem bl_ofL (l : List UInt8) : bl (ofL l) = l := rfl
theorem bl_length (s : ByteArray) : (bl s).length = s.size := rfl
theorem ofL_size (l : List UInt8) : (ofL l).size = l.length := by simp [ofL, ByteArray.size]
theorem bl_inj {a b : ByteArray} (h : bl a = bl b) : a = b := WideShapes.bytes_inj h

def canonB (s : ByteArray) : ByteArray := ofL (lowL (bl s))
theorem bl_canonB (s : ByteArray) : bl (canonB s) = lowL (bl s) := rfl
theorem canonB_size (s : ByteArray) : (canonB s).size = s.size := by rw [canonB, ofL_size, lowL_length, bl_length]

set_option maxHeartbeats 400000 in
theorem make_any (s : ByteArray) (w : World) :
    Calls Try.prog 10 #[.string s] w fun e w' => e = .returned (.agg #[.string s]) ∧ w.alloc (.cells #[.string s] 24) = w' := by
  go_enter Try.func10, Try.ntmps10
  go_wp2
  exact bodyPost_ret (v := .agg #[.string s]) (by simp [results, Try.results10, go_sem]) rfl ⟨rfl, rfl⟩

theorem bl_drop (s : ByteArray) (i : Nat) (h : i < s.size) : (bl s).drop i = s[i] :: (bl s).drop (i + 1) := by
  rw [List.drop_eq_getElem_cons (by rw [bl_length]; exact h)]
  rfl

theorem wf_at (s : ByteArray) (i : Nat) (h : i < s.size) : wf ((bl s).drop i) = (decide (s[i].toNat ≤ 63) && (decide (i + 1 + s[i].toNat ≤ s.size) && wf ((bl s).drop (i + 1 + s[i].toNat)))) := by
  rw [bl_drop s i h, wf_cons, List.drop_drop, List.length_drop, bl_length]
  congr 2
  rw [Bool.eq_iff_iff]
  simp only [decide_eq_true_eq]
  omega

theorem wf_on {s : ByteArray} {i : Nat} {h : i < s.size} (e : wf ((bl s).drop i) = (decide (s[i].toNat ≤ 63) && (decide (i + 1 + s[i].toNat ≤ s.size) && wf ((bl s).drop (i + 1 + s[i].toNat))))) (h1 : s[i].toNat ≤ 63) (h2 : i + 1 + s[i].toNat ≤ s.size)
    (hw : wf ((bl s).drop i) = wf (bl s)) : Hid (wf ((bl s).drop (i + 1 + s[i].toNat)) = wf (bl s)) := by
  rw [e] at hw
  refine hid ?_
  simpa [h1, h2] using hw

set_option maxHeartbeats 400000 in
theorem wf_any (s : ByteArray) (w : World) (hs : s.size ≤ 1048576) :
    Calls Try.prog 15 #[.string s] w fun e w' => e = .returned (.bool (wf (bl s))) ∧ w = w' := by
  go_enter Try.func15, Try.ntmps15
  go_wp2
  go_loop [3] (fun t => ∃ i : Nat, i ≤ s.size ∧ t = .int .i64 (i : Nat) ∧ Hid (wf ((bl s).drop i) = wf (bl s))) (fun t => s.size - (intOf t).toNat)
  case atStart => exact ⟨0, Nat.zero_le _, rfl, rfl⟩
  case round =>
    obtain ⟨i, hi, rfl, hwf⟩ := hrel
    by_cases hlt : i < s.size
    · have hb : (s[i]'hlt).toNat < 256 := UInt8.toNat_lt _
      have HW := hid (wf_at s i hlt)
      by_cases h1 : (s[i]'hlt).toNat ≤ 63
      · by_cases h2 : i + 1 + (s[i]'hlt).toNat ≤ s.size
        · go_wp2
          go_round
          case rel => exact ⟨i + 1 + (s[i]'hlt).toNat, h2, by go_num, wf_on HW.out h1 h2 hwf.out⟩
          case measure => simp [intOf]; omega
        · go_wp2
          go_ret
          exact ⟨ret_bool (by rw [← hwf.out, HW.out]; simp [h2]), rfl⟩
      · go_wp2
        go_ret
        exact ⟨ret_bool (by rw [← hwf.out, HW.out]; simp [h1]), rfl⟩
    · go_wp2
      go_ret
      exact ⟨ret_bool (by rw [← hwf.out, List.drop_of_length_le (by rw [bl_length]; omega)]; rfl), rfl⟩

/-! ### Canonical -/

/-- The bytes of s in block G, the first k lower-cased. -/
def midV (s : ByteArray) (k i : Nat) : Int := if i < k then ((low ((bl s).getD i 0)).toNat : Int) else (((bl s).getD i 0).toNat : Int)

structure CanMid (w wr : World) (s : ByteArray) (G k : Nat) : Prop where
  cell : ∀ i, i < s.size → wr.cell? ⟨G, i, none⟩ = some (.int .u8 (midV s k i))
  frz : ∀ i, i < s.size → wr.frozen? ⟨G, i, none⟩ = false
  res : wr.cell? ⟨w.heap.size + 1, 0, none⟩ = some (.string ⟨#[]⟩)
  rfz : wr.frozen? ⟨w.heap.size + 1, 0, none⟩ = false
  bel : Below w.heap.size w wr

theorem bytesRow_at (s : ByteArray) (cap i : Nat) (h : i < s.size) : (bytesRow s cap)[i]? = some (.int .u8 (((bl s).getD i 0).toNat : Int)) := by
  unfold bytesRow
  rw [Array.getElem?_append_left (by simpa using h)]
  have h' : i < s.data.size := h
  simp only [Array.getElem?_map, Array.getElem?_eq_getElem h', Option.map_some, bl, List.getD, Array.getElem?_toList, Option.getD_some]

theorem can_start (w : World) (s : ByteArray) (cap : Nat) (_hge : s.size ≤ cap) :
    CanMid w (((w.alloc (.cells #[.string s] 24)).alloc (.cells #[.string ⟨#[]⟩] 24)).alloc (.cells (bytesRow s cap) 5 ((bytesRow s cap).size, (bytesRow s cap).size + 1))).drew s (w.heap.size + 1 + 1) 0 := by
  have hb : (((w.alloc (.cells #[.string s] 24)).alloc (.cells #[.string ⟨#[]⟩] 24)).alloc (.cells (bytesRow s cap) 5 ((bytesRow s cap).size, (bytesRow s cap).size + 1))).drew.heap[w.heap.size + 1 + 1]? = some (.cells (bytesRow s cap) 5 ((bytesRow s cap).size, (bytesRow s cap).size + 1)) := by
    have := heap_alloc_new ((w.alloc (.cells #[.string s] 24)).alloc (.cells #[.string ⟨#[]⟩] 24)) (.cells (bytesRow s cap) 5 ((bytesRow s cap).size, (bytesRow s cap).size + 1))
    rw [show ((w.alloc (.cells #[.string s] 24)).alloc (.cells #[.string ⟨#[]⟩] 24)).heap.size = w.heap.size + 1 + 1 by simp] at this
    exact this
  have hr : (((w.alloc (.cells #[.string s] 24)).alloc (.cells #[.string ⟨#[]⟩] 24)).alloc (.cells (bytesRow s cap) 5 ((bytesRow s cap).size, (bytesRow s cap).size + 1))).drew.heap[w.heap.size + 1]? = some (.cells #[.string ⟨#[]⟩] 24 (0, 0)) := by
    show (((w.alloc (.cells #[.string s] 24)).alloc (.cells #[.string ⟨#[]⟩] 24)).alloc _).heap[w.heap.size + 1]? = _
    rw [Below.heap_alloc _ _ _ (by simp)]
    have := heap_alloc_new (w.alloc (.cells #[.string s] 24)) (.cells #[.string ⟨#[]⟩] 24)
    simpa using this
  refine ⟨fun i hi => ?_, fun i hi => ?_, ?_, ?_, ?_⟩
  · rw [cell_of_row _ _ i _ _ _ hb, bytesRow_at s cap i hi]
    simp [midV]
  · simp only [World.frozen?, hb]
    have : (bytesRow s cap).size = s.size + (cap - s.size) := by simp [bytesRow]
    simp
    omega
  · rw [cell_of_row _ _ 0 _ _ _ hr]; rfl
  · simp only [World.frozen?, hr]
    simp
  · exact ((((Below.refl _ _).alloc (Nat.le_refl _) _).alloc (by simp) _).alloc (by simp; omega) _).drew

section
variable {w wr : World} {s : ByteArray} {G k : Nat} {c : UInt8}

theorem midV_succ (hc : c = (bl s).getD k 0) (i : Nat) : midV s (k + 1) i = if i = k then ((low c).toNat : Int) else midV s k i := by
  unfold midV
  by_cases e : i = k
  · subst e; rw [if_pos (by omega), if_pos rfl, hc]
  · rw [if_neg e]
    by_cases l : i < k
    · rw [if_pos (by omega), if_pos l]
    · rw [if_neg (by omega), if_neg l]

theorem can_leave (h : CanMid w wr s G k) (hc : c = (bl s).getD k 0) (hn : ¬ (65 ≤ c.toNat ∧ c.toNat ≤ 90)) : CanMid w wr s G (k + 1) := by
  refine ⟨fun i hi => ?_, h.frz, h.res, h.rfz, h.bel⟩
  rw [h.cell i hi, midV_succ hc]
  by_cases e : i = k
  · subst e
    rw [if_pos rfl, show low c = c from by unfold low; rw [if_neg hn]]
    simp [midV, hc]
  · rw [if_neg e]

theorem can_put (h : CanMid w wr s (w.heap.size + 1 + 1) k) (hk : k < s.size) (hc : c = (bl s).getD k 0) (h1 : 65 ≤ c.toNat) (h2 : c.toNat ≤ 90) :
    CanMid w (wr.setCell ⟨w.heap.size + 1 + 1, k, none⟩ (.int .u8 ((c.toNat : Int) + 97 - 65))) s (w.heap.size + 1 + 1) (k + 1) := by
  refine ⟨fun i hi => ?_, fun i hi => ?_, ?_, ?_, h.bel.setCell (by simp; omega) _⟩
  · rw [midV_succ hc]
    by_cases e : i = k
    · subst e
      rw [if_pos rfl, World.cell?_setCell_same _ _ _ (h.cell i hi), low_toNat, if_pos ⟨h1, h2⟩]
      congr 2
      omega
    · have hne : (⟨w.heap.size + 1 + 1, k, none⟩ : Addr) ≠ ⟨w.heap.size + 1 + 1, i, none⟩ := fun h' => e (by simp only [Addr.mk.injEq] at h'; exact h'.2.1.symm)
      rw [if_neg e, World.cell?_setCell_other _ _ _ _ hne]
      exact h.cell i hi
  · rw [World.frozen?_setCell]; exact h.frz i hi
  · rw [World.cell?_setCell_other _ _ _ _ (by simp)]; exact h.res
  · rw [World.frozen?_setCell]; exact h.rfz

theorem can_back (h : CanMid w wr s G k) (hk : s.size ≤ k) (cap : Nat) : (convert 37 9 (.slice (some ⟨G, 0, none⟩) s.size cap)).run Try.prog wr = .ok (.string (canonB s)) wr := by
  have := run_convert_bytes_back (P := Try.prog) wr 37 9 5 ⟨G, 0, none⟩ cap (lowL (bl s)) Try.underlying37 Try.underlying5 Try.underlying9 (fun j hj => by
    have hj' : j < s.size := by rw [lowL_length, bl_length] at hj; exact hj
    rw [WideShapes.add_plain, Nat.zero_add, h.cell j hj']
    simp only [midV, if_pos (show j < k by omega), lowL, List.getElem_map]
    rw [List.getD, List.getElem?_eq_getElem (by rw [bl_length]; exact hj')]
    rfl)
  rw [lowL_length, bl_length] at this
  exact this
end

set_option maxHeartbeats 400000 in
theorem canon_any (s : ByteArray) (w : World) (hs : s.size ≤ 1048576) :
    Calls Try.prog 11 #[.agg #[.string s]] w fun e w' => e = .returned (.agg #[.string (canonB s)]) ∧ Below w.heap.size w w' := by
  obtain ⟨cap, hge, hcv⟩ : ∃ cap, s.size ≤ cap ∧ (convert 9 37 (.string s)).run Try.prog ((w.alloc (.cells #[.string s] 24)).alloc (.cells #[.string ⟨#[]⟩] 24)) = .ok (.slice (some ⟨w.heap.size + 1 + 1, 0, none⟩) s.size cap) (((w.alloc (.cells #[.string s] 24)).alloc (.cells #[.string ⟨#[]⟩] 24)).alloc (.cells (bytesRow s cap) 5 ((bytesRow s cap).size, (bytesRow s cap).size + 1))).drew := by
    refine ⟨_, grownCap_ge ((w.alloc (.cells #[.string s] 24)).alloc (.cells #[.string ⟨#[]⟩] 24)) s.size 0 5, ?_⟩
    rw [run_bytes_of_string (P := Try.prog) _ 9 37 5 s Try.underlying9 Try.underlying37 Try.underlying5]
    simp
    rfl
  have ST := hid (can_start w s cap hge)
  go_enter Try.func11, Try.ntmps11
  go_wp2
  clear hcv
  go_loopw [11] (fun t wr => ∃ k : Nat, k ≤ s.size ∧ t = .int .i64 (k : Nat) ∧ CanMid w wr s (w.heap.size + 1 + 1) k) (fun t _ => s.size - (intOf t).toNat)
  case atStart => exact ⟨0, Nat.zero_le _, rfl, ST.out⟩
  case round =>
    obtain ⟨k, hk, rfl, hm⟩ := hrel
    have HM := hid hm
    clear hm
    by_cases hlt : k < s.size
    · obtain ⟨c, hc⟩ : ∃ c, c = (bl s).getD k 0 := ⟨_, rfl⟩
      have hcell : wr.cell? ⟨w.heap.size + 1 + 1, k, none⟩ = some (.int .u8 (c.toNat : Int)) := by rw [HM.out.cell k hlt, hc]; simp [midV]
      have hfrz := HM.out.frz k hlt
      have hb : c.toNat < 256 := UInt8.toNat_lt _
      have HC := hid hc
      clear hc
      by_cases h1 : 65 ≤ c.toNat ∧ c.toNat ≤ 90
      · obtain ⟨h1, h2⟩ := h1
        go_wp2
        go_roundw
        case rel => exact ⟨k + 1, by omega, by go_num, can_put HM.out hlt HC.out h1 h2⟩
        case measure => simp [intOf]; omega
      · by_cases h3 : 65 ≤ c.toNat
        · go_wp2
          go_roundw
          case rel => exact ⟨k + 1, by omega, by go_num, can_leave HM.out HC.out h1⟩
          case measure => simp [intOf]; omega
        · go_wp2
          go_roundw
          case rel => exact ⟨k + 1, by omega, by go_num, can_leave HM.out HC.out h1⟩
          case measure => simp [intOf]; omega
    · have hcv := can_back HM.out (by omega) cap
      have hres := HM.out.res
      have hrfz := HM.out.rfz
      go_wp2
      exact bodyPost_ret (v := .agg #[.string (canonB s)]) (by simp [results, Try.results11, go_sem, hres]) rfl ⟨rfl, HM.out.bel.setCell (by simp) _⟩

end Go.Proofs.Qxb6601878a
