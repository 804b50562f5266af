/- The plain law behind FnNewNodeScript: how many names a map holds, and what stands at each. No walk. -/
import Derived.Maps.Views
namespace Go.Proofs.Qxb6601822a
open Go.Maps

/-- How many of a list's non-empty names stand at their last place. -/
def cntL : List (List UInt8) → Nat
  | [] => 0
  | x :: l => (if x ≠ [] ∧ x ∉ l then 1 else 0) + cntL l

theorem cntL_snoc (x : List UInt8) : ∀ l, cntL (l ++ [x]) = cntL l + if x ≠ [] ∧ x ∉ l then 1 else 0
  | [] => by simp [cntL]
  | y :: l => by
    have ih := cntL_snoc x l
    simp only [List.cons_append, cntL, ih]
    by_cases hx : x = []
    · subst hx
      by_cases hy : y = []
      · simp [hy]
      · simp [hy]
    · by_cases hl : x ∈ l
      · have e : (y ∈ l ++ [x]) ↔ y ∈ l := by
          simp only [List.mem_append, List.mem_singleton]
          exact ⟨fun h => h.elim id (fun h => by rw [h]; exact hl), .inl⟩
        simp [hx, hl, e]
      · by_cases hxy : x = y
        · subst hxy
          simp [hx, hl]
          omega
        · have e : (y ∈ l ++ [x]) ↔ y ∈ l := by
            simp only [List.mem_append, List.mem_singleton]
            exact ⟨fun h => h.elim id (fun h => absurd h.symm hxy), .inl⟩
          simp [hx, hl, hxy, e]
          omega

theorem cntL_pos : ∀ (l : List (List UInt8)) (x : List UInt8), x ∈ l → x ≠ [] → 0 < cntL l
  | [], _, h, _ => by cases h
  | y :: l, x, h, hx => by
    unfold cntL
    by_cases hm : x ∈ l
    · have := cntL_pos l x hm hx
      omega
    · rcases List.mem_cons.1 h with rfl | h'
      · rw [if_pos ⟨hx, hm⟩]; omega
      · exact absurd h' hm

theorem cntL_zero : ∀ (l : List (List UInt8)), (∀ x ∈ l, x = []) → cntL l = 0
  | [], _ => rfl
  | y :: l, h => by
    have h1 := h y (List.mem_cons_self ..)
    subst h1
    have := cntL_zero l fun x hx => h x (List.mem_cons_of_mem _ hx)
    simp [cntL, this]

theorem cntL_le : ∀ (l : List (List UInt8)), cntL l ≤ l.length
  | [] => Nat.le_refl _
  | y :: l => by
    have := cntL_le l
    simp only [cntL, List.length_cons]
    split <;> omega

/-- The map after k steps. -/
def dat (ns : Nat → List UInt8) (pv : Nat → Value) : Nat → DataW Value
  | 0 => .map []
  | k + 1 => if ns k = [] then dat ns pv k else (dat ns pv k).put (.string (ns k)) (.held (pv k))

theorem keyLit (x : List UInt8) : WideAt.IsKeyLit (.string x) := by simp [WideAt.IsKeyLit]

theorem dat_congr {ns : Nat → List UInt8} {pv pv' : Nat → Value} : ∀ k, (∀ j, j < k → pv j = pv' j) → dat ns pv k = dat ns pv' k
  | 0, _ => rfl
  | k + 1, h => by
    simp only [dat]
    rw [dat_congr k fun j hj => h j (by omega), h k (by omega)]

theorem tidy_dat (ns : Nat → List UInt8) (pv : Nat → Value) : ∀ k, Tidy (dat ns pv k)
  | 0 => tidy_empty
  | k + 1 => by
    unfold dat
    split
    · exact tidy_dat ns pv k
    · exact (tidy_dat ns pv k).put (keyLit _) _

theorem has_dat (ns : Nat → List UInt8) (pv : Nat → Value) (x : List UInt8) (hx : x ≠ []) : ∀ k, has (dat ns pv k) (.string x) = true ↔ x ∈ (List.range k).map ns
  | 0 => by simp [dat, has]
  | k + 1 => by
    have ih := has_dat ns pv x hx k
    rw [List.range_succ, List.map_append, List.mem_append]
    simp only [List.map_cons, List.map_nil, List.mem_singleton]
    unfold dat
    split
    · rename_i h
      rw [ih, h]
      exact ⟨.inl, fun h' => h'.elim id (fun e => absurd e hx)⟩
    · by_cases e : x = ns k
      · subst e
        rw [has_put_same (tidy_dat ns pv k).isMap (keyLit _)]
        simp
      · rw [has_put_other (by simpa using e), ih]
        exact ⟨.inl, fun h' => h'.elim id (fun e' => absurd e' e)⟩

theorem dat_succ (ns : Nat → List UInt8) (pv : Nat → Value) (k : Nat) : dat ns pv (k + 1) = if ns k = [] then dat ns pv k else (dat ns pv k).put (.string (ns k)) (.held (pv k)) := rfl

theorem size_dat (ns : Nat → List UInt8) (pv : Nat → Value) : ∀ k, size (dat ns pv k) = cntL ((List.range k).map ns)
  | 0 => rfl
  | k + 1 => by
    have ih := size_dat ns pv k
    rw [List.range_succ, List.map_append, List.map_cons, List.map_nil, cntL_snoc, ← ih, dat_succ]
    by_cases h : ns k = []
    · rw [if_pos h, if_neg (fun h' => h'.1 h)]
      rfl
    · rw [if_neg h, size_put (tidy_dat ns pv k)]
      have hh := has_dat ns pv (ns k) h k
      cases hc : has (dat ns pv k) (.string (ns k)) with
      | true =>
        have hn : ¬ (ns k ≠ [] ∧ ns k ∉ (List.range k).map ns) := fun h' => h'.2 (hh.1 hc)
        rw [if_neg hn]; rfl
      | false =>
        have hp : ns k ≠ [] ∧ ns k ∉ (List.range k).map ns := ⟨h, fun h' => by rw [hh.2 h'] at hc; cases hc⟩
        rw [if_pos hp]; rfl

theorem atKey_dat (ns : Nat → List UInt8) (pv : Nat → Value) (z : DataW Value) (k : Nat) (hk : ns k ≠ []) : ∀ t, k < t → (∀ j, k < j → j < t → ns j ≠ ns k) → (dat ns pv t).atKey (.string (ns k)) z = .held (pv k)
  | 0, h, _ => absurd h (Nat.not_lt_zero _)
  | t + 1, h, hj => by
    unfold dat
    by_cases e : t = k
    · subst e
      rw [if_neg hk]
      exact atKey_put_same (tidy_dat ns pv t).isMap (keyLit _) _ _
    · have ih := atKey_dat ns pv z k hk t (by omega) fun j h1 h2 => hj j h1 (by omega)
      split
      · exact ih
      · rw [atKey_put_other (by simpa using (hj t (by omega) (by omega)).symm)]
        exact ih

/-- The count, round by round. -/
theorem cnt_step (ns : Nat → List UInt8) (len k : Nat) (hk : k < len) :
    cntL (((List.range len).map ns).drop k) = (if ns k ≠ [] ∧ ns k ∉ ((List.range len).map ns).drop (k + 1) then 1 else 0) + cntL (((List.range len).map ns).drop (k + 1)) := by
  rw [List.drop_eq_getElem_cons (by simpa using hk)]
  simp [cntL]

theorem mem_later (ns : Nat → List UInt8) (len k : Nat) (x : List UInt8) : x ∈ ((List.range len).map ns).drop k ↔ ∃ j, k ≤ j ∧ j < len ∧ ns j = x := by
  constructor
  · intro h
    obtain ⟨i, hi, e⟩ := List.mem_iff_getElem.1 h
    simp only [List.length_drop, List.length_map, List.length_range] at hi
    refine ⟨k + i, by omega, by omega, ?_⟩
    simpa using e
  · rintro ⟨j, h1, h2, rfl⟩
    refine List.mem_iff_getElem.2 ⟨j - k, by simp; omega, ?_⟩
    simp [show k + (j - k) = j by omega]

end Go.Proofs.Qxb6601822a
