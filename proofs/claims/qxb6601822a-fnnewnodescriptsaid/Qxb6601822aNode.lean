/- newNode. -/
import Derived.Test.Qxb6601822aBase
import Derived.Deep.DeepCutAuto
import Derived.Deep.RegionWith
import Derived.BigRegion
namespace Go.Proofs.Qxb6601822a
open Go.RowKit Go.Maps

/-- A fact kept from the walk. -/
theorem hid {p : Prop} (h : p) : Hid p := h

/-- The reader at block R: its line, its chunk, its slab, its anchors. -/
structure Rd (w : World) (R : Nat) (ln ch : Int) (v : Value) (m : Option Nat) : Prop where
  row : ∃ f, w.rowIs R 49 11 f ∧ f 2 = .int .i64 ln ∧ f 6 = .int .i64 ch ∧ f 7 = v ∧ f 10 = .map m

section
variable {w : World} {R : Nat} {ln ch : Int} {v : Value} {m : Option Nat}

theorem Rd.c2 (h : Rd w R ln ch v m) : w.cell? ⟨R, 2, none⟩ = some (.int .i64 ln) := by
  obtain ⟨f, hr, e, _⟩ := h; rw [← e]; exact hr.cell (by omega)
theorem Rd.c6 (h : Rd w R ln ch v m) : w.cell? ⟨R, 6, none⟩ = some (.int .i64 ch) := by
  obtain ⟨f, hr, _, e, _⟩ := h; rw [← e]; exact hr.cell (by omega)
theorem Rd.c7 (h : Rd w R ln ch v m) : w.cell? ⟨R, 7, none⟩ = some v := by
  obtain ⟨f, hr, _, _, e, _⟩ := h; rw [← e]; exact hr.cell (by omega)
theorem Rd.c10 (h : Rd w R ln ch v m) : w.cell? ⟨R, 10, none⟩ = some (.map m) := by
  obtain ⟨f, hr, _, _, _, e⟩ := h; rw [← e]; exact hr.cell (by omega)
theorem Rd.fz (h : Rd w R ln ch v m) (i : Nat) : w.frozen? ⟨R, i, none⟩ = false := by
  obtain ⟨f, hr, _⟩ := h; exact hr.frozen i
theorem Rd.lt (h : Rd w R ln ch v m) : R < w.heap.size := by
  obtain ⟨f, hr, _⟩ := h; exact hr.lt
theorem Rd.of_block (h : Rd w R ln ch v m) {w' : World} (e : w'.heap[R]? = w.heap[R]?) : Rd w' R ln ch v m := by
  obtain ⟨f, hr, r⟩ := h; exact ⟨f, hr.of_block e, r⟩
theorem Rd.drew (h : Rd w R ln ch v m) : Rd w.drew R ln ch v m := h.of_block rfl
theorem Rd.alloc (h : Rd w R ln ch v m) (o : Obj) : Rd (w.alloc o) R ln ch v m := by
  obtain ⟨f, hr, r⟩ := h; exact ⟨f, hr.alloc o, r⟩
theorem Rd.setLine (h : Rd w R ln ch v m) (l : Int) : Rd (w.setCell ⟨R, 2, none⟩ (.int .i64 l)) R l ch v m := by
  obtain ⟨f, hr, e2, e6, e7, e10⟩ := h; exact ⟨_, hr.set 2 _, by simp, by simpa using e6, by simpa using e7, by simpa using e10⟩
theorem Rd.setSlab (h : Rd w R ln ch v m) (u : Value) : Rd (w.setCell ⟨R, 7, none⟩ u) R ln ch u m := by
  obtain ⟨f, hr, e2, e6, e7, e10⟩ := h; exact ⟨_, hr.set 7 _, by simpa using e2, by simpa using e6, by simp, by simpa using e10⟩
theorem Rd.setMap (h : Rd w R ln ch v m) (u : Option Nat) : Rd (w.setCell ⟨R, 10, none⟩ (.map u)) R ln ch v u := by
  obtain ⟨f, hr, e2, e6, e7, e10⟩ := h; exact ⟨_, hr.set 10 _, by simpa using e2, by simpa using e6, by simpa using e7, by simp⟩
end

/-- What a step of newNode leaves of old memory: all blocks but the reader's, the slab's and the anchors map's are as they were, and of the slab's what is held. -/
structure Kept (w w' : World) (R : Nat) (s : Option Nat) (n : Nat) (m : Option Nat) : Prop where
  os : w'.os = w.os
  tape : w'.tape = w.tape
  output : w'.output = w.output
  size : w.heap.size ≤ w'.heap.size
  block : ∀ b, b < w.heap.size → b ≠ R → s ≠ some b → m ≠ some b → w'.heap[b]? = w.heap[b]?
  held : ∀ b o, s = some b → o < n * 6 → w'.cell? ⟨b, o, none⟩ = w.cell? ⟨b, o, none⟩
  mark : 0 < n → ∀ b cs t, s = some b → w.heap[b]? = some (.cells cs t (0, 0)) → ∃ cs' t', w'.heap[b]? = some (.cells cs' t' (0, 0))

theorem Kept.refl (w : World) (R : Nat) (s : Option Nat) (n : Nat) (m : Option Nat) : Kept w w R s n m := ⟨rfl, rfl, rfl, Nat.le_refl _, fun _ _ _ _ _ => rfl, fun _ _ _ _ => rfl, fun _ _ _ _ _ h => ⟨_, _, h⟩⟩

/-- From a slab to the next: the same, or a new one. -/
def Onward (w : World) (s s' : Option Nat) (n n' : Nat) : Prop := (s' = s ∧ n' = n) ∨ ∀ b, s' = some b → w.heap.size ≤ b

theorem Kept.andThen {w wc wd : World} {R : Nat} {s s' : Option Nat} {n n' : Nat} {m m' : Option Nat} (h1 : Kept w wc R s n m) (h2 : Kept wc wd R s' n' m') (hs : Onward w s s' n n')
    (hm : m' = m ∨ ∀ b, m' = some b → w.heap.size ≤ b) (hl : ∀ b, s = some b → b < w.heap.size ∧ b ≠ R ∧ m ≠ some b) : Kept w wd R s n m := by
  refine ⟨h2.os.trans h1.os, h2.tape.trans h1.tape, h2.output.trans h1.output, Nat.le_trans h1.size h2.size, ?_, ?_, ?_⟩
  · intro b hb hR hsb hmb
    have hs' : s' ≠ some b := by
      rcases hs with ⟨e, _⟩ | hn
      · rw [e]; exact hsb
      · intro e; have := hn b e; omega
    have hm' : m' ≠ some b := by
      rcases hm with e | hn
      · rw [e]; exact hmb
      · intro e; have := hn b e; omega
    exact (h2.block b (Nat.lt_of_lt_of_le hb h1.size) hR hs' hm').trans (h1.block b hb hR hsb hmb)
  · intro b o hb ho
    refine Eq.trans ?_ (h1.held b o hb ho)
    obtain ⟨hl1, hl2, hl3⟩ := hl b hb
    rcases hs with ⟨e, en⟩ | hn
    · exact h2.held b o (by rw [e]; exact hb) (by rw [en]; exact ho)
    · refine World.cell?_of_block (h2.block b (Nat.lt_of_lt_of_le hl1 h1.size) hl2 (fun e => ?_) (fun e => ?_))
      · have := hn b e; omega
      · rcases hm with em | hmn
        · exact hl3 (by rw [← em]; exact e)
        · have := hmn b e; omega
  · intro hn0 b cs t hb hc
    obtain ⟨cs1, t1, hc1⟩ := h1.mark hn0 b cs t hb hc
    obtain ⟨hl1, hl2, hl3⟩ := hl b hb
    rcases hs with ⟨e, en⟩ | hn
    · exact h2.mark (by rw [en]; exact hn0) b cs1 t1 (by rw [e]; exact hb) hc1
    · refine ⟨cs1, t1, (h2.block b (Nat.lt_of_lt_of_le hl1 h1.size) hl2 (fun e => ?_) (fun e => ?_)).trans hc1⟩
      · have := hn b e; omega
      · rcases hm with em | hmn
        · exact hl3 (by rw [← em]; exact e)
        · have := hmn b e; omega

/-- A new block. -/
theorem Kept.ofAlloc (w : World) (o : Obj) (R : Nat) (s : Option Nat) (n : Nat) (m : Option Nat) (hs : ∀ b, s = some b → b < w.heap.size) : Kept w (w.alloc o) R s n m :=
  ⟨rfl, rfl, rfl, by simp, fun b hb _ _ _ => Below.heap_alloc _ _ _ hb, fun b _ e _ => World.cell?_of_block (Below.heap_alloc _ _ _ (hs b e)), fun _ b cs t e h => ⟨cs, t, (Below.heap_alloc _ _ _ (hs b e)).trans h⟩⟩

/-- Draws. -/
theorem Kept.ofDrewN (w : World) (k : Nat) (R : Nat) (s : Option Nat) (n : Nat) (m : Option Nat) : Kept w (w.drewN k) R s n m := by
  induction k with
  | zero => exact Kept.refl _ _ _ _ _
  | succ k ih => exact ⟨ih.os, ih.tape, ih.output, ih.size, ih.block, ih.held, ih.mark⟩

/-- A store into the reader. -/
theorem Kept.ofSet (w : World) (R i : Nat) (u : Value) (s : Option Nat) (n : Nat) (m : Option Nat) (hs : s ≠ some R) : Kept w (w.setCell ⟨R, i, none⟩ u) R s n m :=
  ⟨rfl, rfl, rfl, by simp [World.setCell], fun b _ hR _ _ => Below.heap_setCell _ _ _ _ (by simpa using hR),
    fun b _ e _ => World.cell?_of_block (Below.heap_setCell _ _ _ _ (by intro e2; simp at e2; subst e2; exact hs e)),
    fun _ b cs t e h => ⟨cs, t, (Below.heap_setCell _ _ _ _ (by intro e2; simp at e2; subst e2; exact hs e)).trans h⟩⟩

/-- Behind an append or a make. -/
theorem Kept.ofGrown {w w' : World} (R : Nat) (s : Option Nat) (n : Nat) (m : Option Nat) (h : w.grownBy w' s) (hh : ∀ b o, s = some b → o < n * 6 → w'.cell? ⟨b, o, none⟩ = w.cell? ⟨b, o, none⟩)
    (hk : 0 < n → ∀ b, s = some b → ∃ cur, w'.heap[b]? = some (.cells cur 42 (0, 0))) : Kept w w' R s n m :=
  ⟨h.os, h.tape, h.output, h.size, fun b hb _ hs _ => h.block b hb (fun e => hs e.symm), hh, fun h0 b _ _ e _ => let ⟨cur, hc⟩ := hk h0 b e; ⟨cur, 42, hc⟩⟩

/-- Behind a store into the map. -/
theorem Kept.ofMap {w w' : World} (R : Nat) (s : Option Nat) (n : Nat) (M : Nat) (h : w.grownBy w' (some M)) (hs : ∀ b, s = some b → b < w.heap.size ∧ b ≠ M) : Kept w w' R s n (some M) :=
  ⟨h.os, h.tape, h.output, h.size, fun b hb _ _ hm => h.block b hb (fun e => hm e.symm),
    fun b _ e _ => World.cell?_of_block (h.block b (hs b e).1 (fun e2 => (hs b e).2 (by simpa using e2))),
    fun _ b cs t e hc => ⟨cs, t, (h.block b (hs b e).1 (fun e2 => (hs b e).2 (by simpa using e2))).trans hc⟩⟩

end Go.Proofs.Qxb6601822a
