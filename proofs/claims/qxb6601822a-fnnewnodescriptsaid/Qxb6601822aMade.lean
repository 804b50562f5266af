/- What the script's first loop leaves, round by round. No walk. -/
import Derived.Test.Qxb6601822aCallees
import Derived.Test.Qxb6601822aPlain
namespace Go.Proofs.Qxb6601822a
open Go.RowKit Go.Maps

def ptrOf (q : Nat × Nat) : Value := .pointer (some ⟨q.1, q.2, none⟩)

/-- The blocks that the law's own text lays, in their order. -/
structure Lay (w0 : World) (SB R NB base : Nat) : Prop where
  s : w0.heap.size ≤ SB
  sr : SB < R
  rn : R < NB
  nb : NB < base

structure Made (w0 w : World) (SB R NB base len ch k : Nat) (K A L : Nat → Int) (N : Nat → ByteArray) (p : Nat → Nat × Nat) (ln : Int) (a : Option Addr) (n cap : Nat) (m : Option Nat) : Prop where
  rd : Rd w R ln ch (.slice a n cap) m
  own : ∃ xs, w.ownsRow base 42 6 (.slice a n cap) n xs
  nk : n ≤ k
  hb : base ≤ w.heap.size
  steps : StepsAt w SB 0 len K A L N
  nodes : w.rowIs NB 38 len (fun j => if j < k then ptrOf (p j) else .pointer none)
  node : ∀ j, j < k → NodeAt w (p j).1 (p j).2 (K j) (if (N j).toList.isEmpty then L j else A j)
  place : ∀ j, j < k → base ≤ (p j).1 ∧ ((Value.slice a n cap).ownBlock = some (p j).1 → (p j).2 + 6 ≤ n * 6)
  blk : ∀ j, j < k → ∃ cs t, w.heap[(p j).1]? = some (.cells cs t (0, 0))
  dist : ∀ i j, i < j → j < k → p i ≠ p j
  map : MapOk w m k (dat (fun j => (N j).toList) (fun j => ptrOf (p j)) k)
  mge : ∀ M, m = some M → base ≤ M
  mnone : m = none ↔ ∀ j, j < k → (N j).toList = []
  bel : Below w0.heap.size w0 w

section
variable {w0 w : World} {SB R NB base len ch k : Nat} {K A L : Nat → Int} {N : Nat → ByteArray} {p : Nat → Nat × Nat} {ln : Int} {a : Option Addr} {n cap : Nat} {m : Option Nat}

theorem StepsAt.of_block {b off : Nat} {w' : World} (h : StepsAt w b off len K A L N) (e : w'.heap[b]? = w.heap[b]?) : StepsAt w' b off len K A L N := fun i hi => by
  obtain ⟨h0, h1, h2, h3, h4⟩ := h i hi
  exact ⟨(World.cell?_of_block e).trans h0, (World.cell?_of_block e).trans h1, (World.cell?_of_block e).trans h2, (World.cell?_of_block e).trans h3, h4⟩

/-- A cell that is there lies in a block of cells. -/
theorem cells_of_cell {ad : Addr} {u : Value} (h : w.cell? ad = some u) : ∃ cs t fr, w.heap[ad.block]? = some (.cells cs t fr) := by
  unfold World.cell? at h
  split at h
  · rename_i cs t fr hc
    exact ⟨cs, t, fr, hc⟩
  · cases h

theorem Made.setLine (h : Made w0 w SB R NB base len ch k K A L N p ln a n cap m) (lay : Lay w0 SB R NB base) (l : Int) :
    Made w0 (w.setCell ⟨R, 2, none⟩ (.int .i64 l)) SB R NB base len ch k K A L N p l a n cap m := by
  have hset : ∀ b, b ≠ R → (w.setCell ⟨R, 2, none⟩ (.int .i64 l)).heap[b]? = w.heap[b]? := fun b hb => Below.heap_setCell _ _ _ _ (by simpa using hb)
  have h1 := lay.s
  have h2 := lay.sr
  have h3 := lay.rn
  have h4 := lay.nb
  obtain ⟨xs, ho⟩ := h.own
  refine ⟨h.rd.setLine l, ⟨xs, RowKit.ownsRow_setCell_below ho (by simp; omega) _⟩, h.nk, by simp [World.setCell]; exact h.hb, h.steps.of_block (hset _ (by omega)), h.nodes.of_block (hset _ (by omega)), ?_, h.place, ?_, h.dist, ?_, h.mge, h.mnone, h.bel.setCell (by simp; omega) _⟩
  · intro j hj i u hu
    have := (h.place j hj).1
    rw [World.cell?_of_block (w := w) (hset _ (by simp; omega))]
    exact h.node j hj i u hu
  · intro j hj
    have := (h.place j hj).1
    obtain ⟨cs, t, hc⟩ := h.blk j hj
    exact ⟨cs, t, (hset _ (by omega)).trans hc⟩
  · refine h.map.of_block fun M hM => hset M ?_
    have := h.mge M hM
    omega

theorem Made.drew (h : Made w0 w SB R NB base len ch k K A L N p ln a n cap m) : Made w0 w.drew SB R NB base len ch k K A L N p ln a n cap m :=
  ⟨h.rd.drew, h.own, h.nk, h.hb, h.steps, h.nodes, h.node, h.place, h.blk, h.dist, h.map, h.mge, h.mnone, h.bel.drew⟩

theorem Made.step {w' : World} {g n' cap' : Nat} {m' : Option Nat} (h : Made w0 w SB R NB base len ch k K A L N p (L k) a n cap m) (lay : Lay w0 SB R NB base) (hk : k < len)
    (q : After w w' R base (L k) ch (.slice a n cap) n m g n' cap' m' (K k) (if (N k).toList.isEmpty then L k else A k) (k + 1)
      (if (N k).toList.isEmpty then dat (fun j => (N j).toList) (fun j => ptrOf (p j)) k else (dat (fun j => (N j).toList) (fun j => ptrOf (p j)) k).put (.string (N k).data.toList) (.held (.pointer (some ⟨g, n' * 6, none⟩)))))
    (hme : (N k).toList.isEmpty = true → m' = m) (hmn : (N k).toList.isEmpty = false → ∃ M, m' = some M) :
    Made w0 (w'.setCell ⟨NB, k, none⟩ (.pointer (some ⟨g, n' * 6, none⟩))) SB R NB base len ch (k + 1) K A L N (fun j => if j = k then (g, n' * 6) else p j) (L k) (some ⟨g, 0, none⟩) (n' + 1) cap' m' := by
  have h1 := lay.s
  have h2 := lay.sr
  have h3 := lay.rn
  have h4 := lay.nb
  have hb := h.hb
  obtain ⟨xs, ho⟩ := h.own
  obtain ⟨xs', ho'⟩ := q.own
  have hset : ∀ b, b ≠ NB → (w'.setCell ⟨NB, k, none⟩ (.pointer (some ⟨g, n' * 6, none⟩))).heap[b]? = w'.heap[b]? := fun b hb => Below.heap_setCell _ _ _ _ (by simpa using hb)
  have hslab : ∀ b, (Value.slice a n cap).ownBlock = some b → base ≤ b := fun b e => (ho.lt b e).1
  have hlow : ∀ b, b < base → b ≠ R → w'.heap[b]? = w.heap[b]? := fun b hb' hR => q.kept.block b (by omega) hR (fun e => by have := hslab b e; omega) (fun e => by have := h.mge b e; omega)
  have hgb : base ≤ g := (ho'.lt g rfl).1
  have hmge : ∀ M, m' = some M → base ≤ M := fun M hM => by
    rcases q.mnew with e | e
    · exact h.mge M (by rw [← e]; exact hM)
    · have := e M hM; omega
  -- the cells of an elder node
  have hcell : ∀ j, j < k → ∀ i u, (nodeC (K j) (if (N j).toList.isEmpty then L j else A j))[i]? = some u → w'.cell? ⟨(p j).1, (p j).2 + i, none⟩ = some u ∧ (p j).1 < w.heap.size := fun j hj i u hu => by
    have hc := h.node j hj i u hu
    have hlt := block_lt_of_cell hc
    have hi : i < 6 := by
      rcases Nat.lt_or_ge i 6 with h' | h'
      · exact h'
      · rw [List.getElem?_eq_none (by simpa [nodeC] using h')] at hu; cases hu
    obtain ⟨p1, p2⟩ := h.place j hj
    refine ⟨?_, hlt⟩
    by_cases e : (Value.slice a n cap).ownBlock = some (p j).1
    · rw [q.kept.held _ _ e (by have := p2 e; omega)]; exact hc
    · obtain ⟨cs, t, fr, hcs⟩ := cells_of_cell hc
      rw [World.cell?_of_block (w := w) (q.kept.block _ hlt (by simp; omega) e (h.map.apart hcs))]; exact hc
  have hfirst : ∀ j, j < k → (p j).1 < w.heap.size := fun j hj => (hcell j hj 1 (.bool false) rfl).2
  have hpk : ∀ j, j < k + 1 → j ≠ k → j < k := fun j h1 h2 => by omega
  refine ⟨q.rd.of_block (hset R (by omega)), ⟨xs', RowKit.ownsRow_setCell_below ho' (by simpa using h4) _⟩, by have := q.le; have := h.nk; omega, ?_, (h.steps.of_block (hlow SB (by omega) (by omega))).of_block (hset SB (by omega)), ?_, ?_, ?_, ?_, ?_, ?_, hmge, ?_, ?_⟩
  · have := q.kept.size
    simp [World.setCell]
    omega
  · refine ((h.nodes.of_block (hlow NB h4 (by omega))).set k _).congr fun i hi => ?_
    by_cases e : i = k
    · subst e; simp [ptrOf]
    · by_cases l : i < k
      · simp [e, l, Nat.lt_succ_of_lt l]
      · simp [e, l, show ¬ i < k + 1 by omega]
  · intro j hj i u hu
    by_cases e : j = k
    · subst e
      rw [if_pos rfl]
      rw [World.cell?_of_block (w := w') (hset _ (by simp; omega))]
      exact q.node i u hu
    · rw [if_neg e]
      have := (h.place j (hpk j hj e)).1
      rw [World.cell?_of_block (w := w') (hset _ (by simp; omega))]
      exact (hcell j (hpk j hj e) i u hu).1
  · intro j hj
    by_cases e : j = k
    · subst e
      rw [if_pos rfl]
      exact ⟨hgb, fun _ => by omega⟩
    · rw [if_neg e]
      obtain ⟨p1, p2⟩ := h.place j (hpk j hj e)
      refine ⟨p1, fun e2 => ?_⟩
      simp only [Value.ownBlock, Option.some.injEq] at e2
      rcases q.fresh with ⟨f1, f2⟩ | f1
      · have := p2 (by rw [← e2]; exact f1)
        omega
      · have := hfirst j (hpk j hj e)
        omega
  · intro j hj
    by_cases e : j = k
    · subst e
      rw [if_pos rfl]
      obtain ⟨cur, hc⟩ := own_cells ho' rfl
      exact ⟨cur, 42, (hset g (by omega)).trans hc⟩
    · rw [if_neg e]
      obtain ⟨p1, p2⟩ := h.place j (hpk j hj e)
      obtain ⟨cs, t, hc⟩ := h.blk j (hpk j hj e)
      by_cases es : (Value.slice a n cap).ownBlock = some (p j).1
      · obtain ⟨cs', t', hc'⟩ := q.kept.mark (by have := p2 es; omega) _ cs t es hc
        exact ⟨cs', t', (hset _ (by omega)).trans hc'⟩
      · exact ⟨cs, t, (hset _ (by omega)).trans ((q.kept.block _ (hfirst j (hpk j hj e)) (by omega) es (h.map.apart hc)).trans hc)⟩
  · intro i j hij hj
    by_cases e : j = k
    · subst e
      rw [if_pos rfl, if_neg (by omega)]
      intro e2
      obtain ⟨p1, p2⟩ := h.place i (by omega)
      have e3 : (p i).1 = g := by rw [e2]
      have e4 : (p i).2 = n' * 6 := by rw [e2]
      rcases q.fresh with ⟨f1, f2⟩ | f1
      · have := p2 (by rw [e3]; exact f1)
        omega
      · have := hfirst i (by omega)
        omega
    · rw [if_neg e, if_neg (by omega)]
      exact h.dist i j hij (by omega)
  · have hD : (if (N k).toList.isEmpty then dat (fun j => (N j).toList) (fun j => ptrOf (p j)) k else (dat (fun j => (N j).toList) (fun j => ptrOf (p j)) k).put (.string (N k).data.toList) (.held (.pointer (some ⟨g, n' * 6, none⟩)))) =
        dat (fun j => (N j).toList) (fun j => ptrOf (if j = k then (g, n' * 6) else p j)) (k + 1) := by
      have ec : dat (fun j => (N j).toList) (fun j => ptrOf (if j = k then (g, n' * 6) else p j)) k = dat (fun j => (N j).toList) (fun j => ptrOf (p j)) k :=
        dat_congr k fun j hj => by show ptrOf (if j = k then (g, n' * 6) else p j) = ptrOf (p j); rw [if_neg (by omega)]
      rw [dat_succ, ec]
      simp only [List.isEmpty_iff, if_true]
      rw [← ByteArray.toList_eq]
      rfl
    have hq := q.map
    rw [hD] at hq
    refine hq.of_block fun M hM => hset M ?_
    have := hmge M hM
    omega
  · constructor
    · intro e j hj
      by_cases ek : j = k
      · subst ek
        cases hN : (N j).toList.isEmpty with
        | true => exact List.isEmpty_iff.1 hN
        | false =>
          obtain ⟨M, hM⟩ := hmn hN
          rw [hM] at e; cases e
      · have hm0 : m = none := by
          rcases q.mnew with e2 | _
          · rw [← e2]; exact e
          · cases hN : (N k).toList.isEmpty with
            | true => rw [← hme hN]; exact e
            | false =>
              obtain ⟨M, hM⟩ := hmn hN
              rw [hM] at e; cases e
        exact h.mnone.1 hm0 j (hpk j hj ek)
    · intro hall
      rw [hme (by rw [hall k (by omega)]; rfl)]
      exact h.mnone.2 fun j hj => hall j (by omega)
  · refine (h.bel.trans ⟨q.kept.os, q.kept.tape, q.kept.output, q.kept.size, fun b hb' => hlow b (by omega) (by omega)⟩).setCell ?_ _
    simp; omega

end
end Go.Proofs.Qxb6601822a
