/- The last loop's count, and the anchors' contracts over what was made. No great walk. -/
import Derived.Test.Qxb6601822aCopy
namespace Go.Proofs.Qxb6601822a
open Go.RowKit Go.Maps

def names (N : Nat → ByteArray) (len : Nat) : List (List UInt8) := (List.range len).map fun j => (N j).toList

/-- So many have been counted, so many are to come. -/
def Counted (N : Nat → ByteArray) (len k c : Nat) : Prop := c + cntL ((names N len).drop k) = cntL (names N len)

section
variable {N : Nat → ByteArray} {len k c j : Nat}

theorem counted_start (N : Nat → ByteArray) (len : Nat) : Counted N len 0 0 := by simp [Counted]

theorem counted_le (h : Counted N len k c) : c ≤ len := by
  have h1 := cntL_le (names N len)
  have h2 : (names N len).length = len := by simp [names]
  unfold Counted at h
  omega

theorem counted_empty (h : Counted N len k c) (hk : k < len) (he : (N k).toList.isEmpty = true) : Counted N len (k + 1) c := by
  unfold Counted at h ⊢
  have := cnt_step (fun j => (N j).toList) len k hk
  rw [if_neg (fun h' => h'.1 (List.isEmpty_iff.1 he))] at this
  unfold names at h ⊢
  omega

theorem counted_last (h : Counted N len k c) (hk : k < len) (he : (N k).toList.isEmpty = false) (hl : ∀ i, k < i → i < len → (N i).toList ≠ (N k).toList) : Counted N len (k + 1) (c + 1) := by
  unfold Counted at h ⊢
  have := cnt_step (fun j => (N j).toList) len k hk
  rw [if_pos ⟨fun e => (by rw [e] at he; cases he), fun hm => by
    obtain ⟨i, h1, h2, h3⟩ := (mem_later _ _ _ _).1 hm
    exact hl i (by omega) h2 h3⟩] at this
  unfold names at h ⊢
  omega

theorem counted_again (h : Counted N len k c) (hk : k < len) (h1 : k < j) (h2 : j < len) (hj : (N j).toList = (N k).toList) : Counted N len (k + 1) c := by
  unfold Counted at h ⊢
  have := cnt_step (fun j => (N j).toList) len k hk
  rw [if_neg (fun h' => h'.2 ((mem_later _ _ _ _).2 ⟨j, by omega, h2, hj⟩))] at this
  unfold names at h ⊢
  omega

theorem counted_end (h : Counted N len k c) (hk : len ≤ k) : c = cntL (names N len) := by
  unfold Counted at h
  rw [List.drop_of_length_le (by simp [names]; exact hk)] at h
  simpa [cntL] using h
end

section
variable {w0 w : World} {SB R NB base len ch k : Nat} {K A L : Nat → Int} {N : Nat → ByteArray} {p : Nat → Nat × Nat} {ln : Int} {a : Option Addr} {n cap : Nat} {m : Option Nat} {g o : Nat}

theorem names_zero (h : Made w0 w SB R NB base len ch len K A L N p ln a n cap none) : cntL (names N len) = 0 := by
  refine cntL_zero _ fun x hx => ?_
  simp only [names, List.mem_map, List.mem_range] at hx
  obtain ⟨j, hj, rfl⟩ := hx
  exact h.mnone.1 rfl j hj

theorem names_pos {M : Nat} (h : Made w0 w SB R NB base len ch len K A L N p ln a n cap (some M)) : 0 < cntL (names N len) := by
  refine Decidable.byContradiction fun hz => ?_
  have : (some M : Option Nat) = none := h.mnone.2 fun j hj => Decidable.byContradiction fun hj' => hz (cntL_pos _ _ (by
    simp only [names, List.mem_map, List.mem_range]
    exact ⟨j, hj, rfl⟩) hj')
  cases this

theorem count_made (h : Made w0 w SB R NB base len ch len K A L N p ln a n cap m) (c : Nat) (hc : c = cntL (names N len)) :
    Calls Try.prog 21 #[.pointer (some ⟨R, 0, none⟩)] w fun e w' => e = .returned (.int .i64 c) ∧ w = w' := by
  obtain ⟨f, hf, _, _, _, h10⟩ := h.rd.row
  cases m with
  | none =>
    rw [hc, names_zero h]
    exact anchorCount_nil R f w hf h10
  | some M =>
    rcases h.map with ⟨e, _⟩ | ⟨M', e, ho⟩
    · cases e
    · cases e
      have := anchorCount R M len f _ w hf h10 ho
      rw [size_dat] at this
      rw [hc]
      exact this

theorem nil_made (h : Made w0 w SB R NB base len ch len K A L N p ln a n cap m) (c : Nat) (hc : c = cntL (names N len)) :
    Calls Try.prog 22 #[.pointer (some ⟨R, 0, none⟩)] w fun e w' => e = .returned (.bool ((c : Int) == 0)) ∧ w = w' := by
  obtain ⟨f, hf, _, _, _, h10⟩ := h.rd.row
  have := anchorsNil R f m w hf h10
  cases m with
  | none =>
    have hz := names_zero h
    have e : ((c : Int) == 0) = true := by rw [hc, hz]; rfl
    rw [e]
    exact this
  | some M =>
    have hz := names_pos h
    have e : ((c : Int) == 0) = false := by simp; omega
    rw [e]
    exact this

theorem anchor_made (h : Made w0 w SB R NB base len ch len K A L N p ln a n cap m) (hk : k < len) (he : (N k).toList.isEmpty = false) (hl : ∀ i, k < i → i < len → (N i).toList ≠ (N k).toList) (hp : p k = (g, o)) :
    Calls Try.prog 20 #[.pointer (some ⟨R, 0, none⟩), .string (N k)] w fun e w' => e = .returned (.pointer (some ⟨g, o, none⟩)) ∧ w' = w := by
  obtain ⟨f, hf, _, _, _, h10⟩ := h.rd.row
  have hne : (N k).toList ≠ [] := fun e => by rw [e] at he; cases he
  have hsz := (h.steps k hk).2.2.2.2
  rcases h.map with ⟨e, _⟩ | ⟨M, e, ho⟩
  · exact absurd (h.mnone.1 e k hk) hne
  · subst e
    refine (anchorAt R M len f _ (N k) w hsz hf h10 ho).mono ?_
    rintro e w' ⟨⟨v, rfl, hv⟩, rfl⟩
    have := atKey_dat (fun j => (N j).toList) (fun j => ptrOf (p j)) (.held (.pointer none)) k hne len hk hl
    rw [← ByteArray.toList_eq] at hv
    rw [this] at hv
    cases hv
    exact ⟨by rw [hp]; rfl, rfl⟩
end

theorem neq_same (w : World) (q : Addr) : (binOp .neq 38 (.pointer (some q)) (.pointer (some q))).run Try.prog w = .ok (.bool false) w := by
  obtain ⟨i0, hi, _⟩ := info_parts info42
  exact Lib.run_neq_ptr_same (P := Try.prog) w q Try.underlying38 hi

end Go.Proofs.Qxb6601822a
