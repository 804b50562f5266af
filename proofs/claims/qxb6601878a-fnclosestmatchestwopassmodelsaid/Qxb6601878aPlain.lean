/- The plain law behind namestake's dnsname: names in wire form, as lists of bytes. No Go in sight. -/
namespace Go.Proofs.Qxb6601878a

/-- One octet, lower-cased. -/
def low (c : UInt8) : UInt8 := if 65 ≤ c.toNat ∧ c.toNat ≤ 90 then c + 32 else c
/-- One octet, upper-cased. -/
def up (c : UInt8) : UInt8 := if 97 ≤ c.toNat ∧ c.toNat ≤ 122 then c - 32 else c

theorem low_toNat (c : UInt8) : (low c).toNat = if 65 ≤ c.toNat ∧ c.toNat ≤ 90 then c.toNat + 32 else c.toNat := by
  unfold low
  split
  · rw [UInt8.toNat_add]
    have h : (32 : UInt8).toNat = 32 := rfl
    rw [h]; omega
  · rfl

theorem up_toNat (c : UInt8) : (up c).toNat = if 97 ≤ c.toNat ∧ c.toNat ≤ 122 then c.toNat - 32 else c.toNat := by
  unfold up
  split
  · rename_i h0
    rw [UInt8.toNat_sub]
    have h : (32 : UInt8).toNat = 32 := rfl
    have := c.toNat_lt
    rw [h]; omega
  · rfl

theorem low_low (c : UInt8) : low (low c) = low c := by
  apply UInt8.toNat_inj.1
  rw [low_toNat (low c), low_toNat c]
  repeat' split
  all_goals omega

theorem low_up (c : UInt8) : low (up c) = low c := by
  apply UInt8.toNat_inj.1
  rw [low_toNat (up c), low_toNat c, up_toNat c]
  have := c.toNat_lt
  repeat' split
  all_goals omega

theorem low_small {c : UInt8} (h : c.toNat ≤ 63) : low c = c := by
  unfold low
  rw [if_neg (by omega)]

theorem small_of_low {c : UInt8} (h : (low c).toNat ≤ 63) : low c = c ∧ c.toNat ≤ 63 := by
  have h1 := low_toNat c
  unfold low at h h1 ⊢
  split
  · rename_i h2
    rw [if_pos h2] at h1 h
    rw [if_pos h2] at h1
    omega
  · rename_i h2
    rw [if_neg h2] at h
    exact ⟨rfl, h⟩

def lowL (l : List UInt8) : List UInt8 := l.map low

theorem lowL_low (l : List UInt8) : lowL (lowL l) = lowL l := by simp [lowL, Function.comp_def, low_low]
theorem lowL_up (l : List UInt8) : lowL (l.map up) = lowL l := by simp [lowL, Function.comp_def, low_up]
theorem lowL_length (l : List UInt8) : (lowL l).length = l.length := by simp [lowL]
theorem lowL_drop (l : List UInt8) (n : Nat) : (lowL l).drop n = lowL (l.drop n) := by simp [lowL, List.map_drop]

/-- The first label taken off. -/
def step : List UInt8 → List UInt8
  | [] => []
  | c :: t => t.drop c.toNat

def iter : Nat → List UInt8 → List UInt8
  | 0, l => l
  | k + 1, l => iter k (step l)

theorem iter_add (a b : Nat) (l : List UInt8) : iter (a + b) l = iter b (iter a l) := by
  induction a generalizing l with
  | zero => rw [Nat.zero_add]; rfl
  | succ a ih => rw [show a + 1 + b = (a + b) + 1 by omega]; exact ih (step l)

theorem iter_nil (k : Nat) : iter k [] = [] := by
  induction k with
  | zero => rfl
  | succ k ih => exact ih

theorem step_length (l : List UInt8) : (step l).length ≤ l.length - 1 := by
  cases l with
  | nil => simp [step]
  | cons c t => simp only [step, List.length_drop, List.length_cons]; omega

theorem iter_length (k : Nat) (l : List UInt8) : (iter k l).length ≤ l.length - k := by
  induction k generalizing l with
  | zero => exact Nat.le_refl _
  | succ k ih =>
    have h1 := ih (step l)
    have h2 := step_length l
    show (iter k (step l)).length ≤ _
    omega

theorem iter_end {k : Nat} {l : List UInt8} (h : l.length ≤ k) : iter k l = [] := by
  have := iter_length k l
  exact List.eq_nil_of_length_eq_zero (by omega)

theorem step_suffix (l : List UInt8) : step l <:+ l := by
  cases l with
  | nil => exact List.suffix_refl _
  | cons c t => exact (List.drop_suffix _ _).trans (List.suffix_cons _ _)

theorem iter_suffix (k : Nat) (l : List UInt8) : iter k l <:+ l := by
  induction k generalizing l with
  | zero => exact List.suffix_refl _
  | succ k ih => exact (ih (step l)).trans (step_suffix l)

/-- Is z one of l's label suffixes? -/
def inF : Nat → List UInt8 → List UInt8 → Bool
  | 0, l, z => l == z
  | f + 1, l, z => l == z || inF f (step l) z
def inB (l z : List UInt8) : Bool := inF l.length l z

theorem inF_iff (f : Nat) (l z : List UInt8) : inF f l z = true ↔ ∃ k, k ≤ f ∧ iter k l = z := by
  induction f generalizing l with
  | zero =>
    unfold inF
    constructor
    · intro h; exact ⟨0, Nat.le_refl _, eq_of_beq h⟩
    · rintro ⟨k, hk, e⟩
      obtain rfl : k = 0 := by omega
      rw [← e]; exact beq_self_eq_true _
  | succ f ih =>
    unfold inF
    rw [Bool.or_eq_true, ih]
    constructor
    · rintro (h | ⟨k, hk, e⟩)
      · exact ⟨0, Nat.zero_le _, eq_of_beq h⟩
      · exact ⟨k + 1, by omega, e⟩
    · rintro ⟨k, hk, e⟩
      cases k with
      | zero => left; rw [← e]; exact beq_self_eq_true _
      | succ k => exact .inr ⟨k, by omega, e⟩

theorem inB_iff (l z : List UInt8) : inB l z = true ↔ ∃ k, iter k l = z := by
  unfold inB
  rw [inF_iff]
  constructor
  · rintro ⟨k, _, e⟩; exact ⟨k, e⟩
  · rintro ⟨k, e⟩
    rcases Nat.lt_or_ge l.length k with h | h
    · exact ⟨l.length, Nat.le_refl _, by rw [iter_end (Nat.le_refl _), ← e, iter_end (by omega)]⟩
    · exact ⟨k, h, e⟩

theorem inB_refl (l : List UInt8) : inB l l = true := (inB_iff _ _).2 ⟨0, rfl⟩
theorem inB_root (l : List UInt8) : inB l [] = true := (inB_iff _ _).2 ⟨l.length, iter_end (Nat.le_refl _)⟩
theorem inB_trans {a b c : List UInt8} (h1 : inB a b = true) (h2 : inB b c = true) : inB a c = true := by
  obtain ⟨j, rfl⟩ := (inB_iff _ _).1 h1
  obtain ⟨k, rfl⟩ := (inB_iff _ _).1 h2
  exact (inB_iff _ _).2 ⟨j + k, iter_add j k a⟩
theorem inB_suffix {a b : List UInt8} (h : inB a b = true) : b <:+ a := by
  obtain ⟨j, rfl⟩ := (inB_iff _ _).1 h
  exact iter_suffix j a
theorem inB_length {a b : List UInt8} (h : inB a b = true) : b.length ≤ a.length := (inB_suffix h).length_le
theorem inB_antisymm {a b : List UInt8} (h1 : inB a b = true) (h2 : inB b a = true) : a = b :=
  ((inB_suffix h1).eq_of_length_le (inB_length h2)).symm

theorem inB_cons (c : UInt8) (t z : List UInt8) (h : ((c :: t) == z) = false) : inB (c :: t) z = inB (t.drop c.toNat) z := by
  rw [Bool.eq_iff_iff, inB_iff, inB_iff]
  constructor
  · rintro ⟨k, e⟩
    cases k with
    | zero => rw [show iter 0 (c :: t) = c :: t from rfl] at e; rw [e] at h; simp at h
    | succ k => exact ⟨k, e⟩
  · rintro ⟨k, e⟩
    exact ⟨k + 1, e⟩

theorem inB_nil (z : List UInt8) (h : (([] : List UInt8) == z) = false) : inB [] z = false := by
  cases hz : inB [] z with
  | false => rfl
  | true =>
    obtain ⟨k, e⟩ := (inB_iff _ _).1 hz
    rw [iter_nil] at e
    rw [← e] at h
    simp at h

/-- Does l tile into labels? -/
def wfF : Nat → List UInt8 → Bool
  | _, [] => true
  | 0, _ :: _ => false
  | f + 1, c :: t => decide (c.toNat ≤ 63) && (decide (c.toNat ≤ t.length) && wfF f (t.drop c.toNat))
def wf (l : List UInt8) : Bool := wfF l.length l

theorem wfF_more : ∀ (f g : Nat) (l : List UInt8), l.length ≤ f → l.length ≤ g → wfF f l = wfF g l
  | f, g, [], _, _ => by cases f <;> cases g <;> rfl
  | 0, _, c :: t, h, _ => by simp at h
  | _ + 1, 0, c :: t, _, h => by simp at h
  | f + 1, g + 1, c :: t, hf, hg => by
    simp only [List.length_cons] at hf hg
    unfold wfF
    rw [wfF_more f g (t.drop c.toNat) (by simp; omega) (by simp; omega)]

theorem wf_nil : wf [] = true := rfl
theorem wf_cons (c : UInt8) (t : List UInt8) : wf (c :: t) = (decide (c.toNat ≤ 63) && (decide (c.toNat ≤ t.length) && wf (t.drop c.toNat))) := by
  unfold wf
  rw [show (c :: t).length = t.length + 1 from rfl]
  conv => lhs; unfold wfF
  rw [wfF_more t.length (t.drop c.toNat).length (t.drop c.toNat) (by simp) (Nat.le_refl _)]

theorem wf_low : ∀ (n : Nat) (l : List UInt8), l.length ≤ n → wf l = true → wf (lowL l) = true
  | _, [], _, _ => rfl
  | 0, c :: t, h, _ => by simp at h
  | n + 1, c :: t, h, hw => by
    rw [wf_cons] at hw
    simp only [Bool.and_eq_true, decide_eq_true_eq] at hw
    obtain ⟨h1, h2, h3⟩ := hw
    have e : lowL (c :: t) = low c :: lowL t := rfl
    rw [e, wf_cons, low_small h1, lowL_drop, wf_low n (t.drop c.toNat) (by simp only [List.length_drop]; simp only [List.length_cons] at h; omega) h3, lowL_length]
    simp [h1, h2]

theorem wf_lowL {l : List UInt8} (h : wf l = true) : wf (lowL l) = true := wf_low l.length l (Nat.le_refl _) h

end Go.Proofs.Qxb6601878a
