/- The walk of newNode. -/
import Derived.Test.Qxb6601822aNode
namespace Go.Proofs.Qxb6601822a
open Go.RowKit Go.Maps

def ancObj (name : ByteArray) (al : Int) : Obj := .cells #[.string name, .int .i64 al] 55

/-- A new node's cells. -/
def nodeC (kd ln : Int) : List Value := [.int .u8 kd, .bool false, .int .i64 ln, .string ⟨#[]⟩, .slice none 0 0, .pointer none]
def nodeObj (kd ln : Int) : Obj := .cells #[.int .u8 kd, .bool false, .int .i64 ln, .string ⟨#[]⟩, .slice none 0 0, .pointer none] 42

/-- Behind the first 'if' of newNode: the slab has room, or it is a fresh one. -/
def HeadRel (w wc : World) (R base : Nat) (ln : Int) (ch : Nat) (v : Value) (n : Nat) (m : Option Nat) (name : ByteArray) (al : Int) : Prop :=
  ∃ v1 n1 xs1, Rd wc R ln ch v1 m ∧ wc.ownsRow base 42 6 v1 n1 xs1 ∧ ((∃ g cap, v1 = .slice (some ⟨g, 0, none⟩) n1 cap ∧ n1 < cap) ∨ n1 = 0) ∧ Kept w wc R v.ownBlock n m ∧
    Onward w v.ownBlock v1.ownBlock n n1 ∧ n1 ≤ n ∧ wc.heap[w.heap.size]? = some (ancObj name al) ∧ (∀ M, m = some M → wc.heap[M]? = w.heap[M]?)

/-- The anchors map, as a datum over tokens: nil reads as empty. -/
def MapOk (w : World) (m : Option Nat) (cnt : Nat) (D : DataW Value) : Prop := (m = none ∧ D = .map []) ∨ ∃ M, m = some M ∧ w.ownsMap Try.prog 9 ptrElem M cnt D

theorem MapOk.of_block {w w' : World} {m : Option Nat} {cnt : Nat} {D : DataW Value} (h : MapOk w m cnt D) (e : ∀ M, m = some M → w'.heap[M]? = w.heap[M]?) : MapOk w' m cnt D := by
  rcases h with h | ⟨M, rfl, es, clock, hh, r⟩
  · exact .inl h
  · exact .inr ⟨M, rfl, es, clock, (e M rfl).trans hh, r⟩

theorem MapOk.lt {w : World} {m : Option Nat} {cnt : Nat} {D : DataW Value} (h : MapOk w m cnt D) : ∀ M, m = some M → M < w.heap.size := by
  intro M hM
  rcases h with ⟨h, _⟩ | ⟨M', rfl, ho⟩
  · rw [h] at hM; cases hM
  · cases hM; exact ho.lt

/-- A block of cells is no map. -/
theorem MapOk.apart {w : World} {m : Option Nat} {cnt : Nat} {D : DataW Value} (h : MapOk w m cnt D) {b : Nat} {cs : Array Value} {t : TypeId} {fr : Nat × Nat} (hb : w.heap[b]? = some (.cells cs t fr)) : m ≠ some b := by
  intro e
  rcases h with ⟨h, _⟩ | ⟨M', rfl, es, clock, hh, _⟩
  · rw [h] at e; cases e
  · cases e; rw [hb] at hh; cases hh

/-- Behind the second 'if' of newNode: the line is the anchor's or the reader's; where there is an anchor there is a map. -/
def MidRel (w wd : World) (s7 : Value) (R base : Nat) (ln : Int) (ch : Nat) (v : Value) (n : Nat) (m : Option Nat) (name : ByteArray) (al : Int) (cnt : Nat) (D : DataW Value) : Prop :=
  s7 = .int .i64 (if name.toList.isEmpty then ln else al) ∧ ∃ v1 n1 xs1 m1, Rd wd R ln ch v1 m1 ∧ wd.ownsRow base 42 6 v1 n1 xs1 ∧ ((∃ g cap, v1 = .slice (some ⟨g, 0, none⟩) n1 cap ∧ n1 < cap) ∨ n1 = 0) ∧ Kept w wd R v.ownBlock n m ∧
    Onward w v.ownBlock v1.ownBlock n n1 ∧ n1 ≤ n ∧ wd.heap[w.heap.size]? = some (ancObj name al) ∧ MapOk wd m1 cnt D ∧ (name.toList.isEmpty = true → m1 = m) ∧ (name.toList.isEmpty = false → ∃ M, m1 = some M) ∧ (m1 = m ∨ ∀ b, m1 = some b → w.heap.size ≤ b)

section
variable {R base n ch : Nat} {ln al : Int} {name : ByteArray} {a : Option Addr} {cap : Nat} {xs : List Value} {m : Option Nat} {w : World}

theorem slab_form {v : Value} (hown : w.ownsRow base 42 6 v n xs) : ∃ a cap, v = .slice a n cap := by
  rcases hown.2 with ⟨e, h⟩ | ⟨g, cap', cur, e, _⟩
  · subst h; exact ⟨_, _, e⟩
  · exact ⟨_, _, e⟩

theorem nodeC_news (w : World) (kd ln : Int) : ∀ j u, (nodeC kd ln)[j]? = some u → (w.alloc (nodeObj kd ln)).cell? ((⟨w.heap.size, 0, none⟩ : Addr).add j) = some u :=
  fun j u h => World.news_of_block (heap_alloc_new w (nodeObj kd ln)) j u h

theorem nodeC_one (kd ln : Int) : ∀ u ∈ nodeC kd ln, u.oneCell' = true := by
  intro u hu
  simp only [nodeC, List.mem_cons, List.not_mem_nil, or_false] at hu
  rcases hu with rfl | rfl | rfl | rfl | rfl | rfl <;> rfl

theorem rd_grown {v : Value} {w1 : World} (hR : R < base) (rd : Rd w R ln ch v m) (hown : w.ownsRow base 42 6 v n xs) (hg : w.grownBy w1 v.ownBlock) : Rd w1 R ln ch v m :=
  rd.of_block (hg.block R rd.lt (fun e => by have := hown.lt R e.symm; omega))

theorem anc_lt {wc : World} {A : Nat} (h : wc.heap[A]? = some (ancObj name al)) : A < wc.heap.size := by
  rcases Nat.lt_or_ge A wc.heap.size with h' | h'
  · exact h'
  · rw [Array.getElem?_eq_none h'] at h; cases h

theorem anc_alloc {wc : World} {A : Nat} {o : Obj} (h : wc.heap[A]? = some (ancObj name al)) : (wc.alloc o).heap[A]? = some (ancObj name al) := by
  rw [Below.heap_alloc _ _ _ (anc_lt h)]; exact h

theorem anc_apart {v : Value} {A : Nat} (hown : w.ownsRow base 42 6 v n xs) (h : w.heap[A]? = some (ancObj name al)) : v.ownBlock ≠ some A := by
  intro e
  rcases hown.2 with ⟨e', _⟩ | ⟨g, cap', cur, e', _, hg, _⟩
  · subst e'; simp [Value.ownBlock] at e
  · subst e'
    simp only [Value.ownBlock, Option.some.injEq] at e
    subst e
    rw [h] at hg
    simp [ancObj] at hg

theorem anc_grown {v : Value} {A : Nat} {w1 : World} (hown : w.ownsRow base 42 6 v n xs) (h : w.heap[A]? = some (ancObj name al)) (hg : w.grownBy w1 v.ownBlock) : w1.heap[A]? = some (ancObj name al) := by
  rw [hg.block A (anc_lt h) (fun e => anc_apart hown h e.symm)]; exact h

theorem anc_c0 {A : Nat} (h : w.heap[A]? = some (ancObj name al)) : w.cell? ⟨A, 0, none⟩ = some (.string name) := by
  rw [cell_of_row w _ 0 _ _ _ h]; rfl

theorem slab_ne (hR : R < base) (hown : w.ownsRow base 42 6 (.slice a n cap) n xs) : ∀ b, (Value.slice a n cap).ownBlock = some b → b < w.heap.size ∧ b ≠ R := fun b hb => by
  have := hown.lt b hb
  exact ⟨this.2, by omega⟩

theorem head_room (hR : R < base) (rd : Rd w R ln ch (.slice a n cap) m) (hown : w.ownsRow base 42 6 (.slice a n cap) n xs) (hm : ∀ M, m = some M → M < w.heap.size) (h : n < cap) (k : Nat) :
    HeadRel w ((w.alloc (ancObj name al)).drewN k) R base ln ch (.slice a n cap) n m name al := by
  have K := Kept.ofAlloc w (ancObj name al) R (Value.slice a n cap).ownBlock n m (fun b hb => (slab_ne hR hown b hb).1)
  refine ⟨.slice a n cap, n, xs, (rd.alloc _).of_block rfl, hown.alloc _, .inl ?_, ⟨K.os, K.tape, K.output, K.size, K.block, K.held, K.mark⟩, .inl ⟨rfl, rfl⟩, Nat.le_refl _, heap_alloc_new w _, fun M hM => Below.heap_alloc _ _ _ (hm M hM)⟩
  rcases hown.2 with ⟨e, _⟩ | ⟨g, cap', cur, e, _⟩
  · simp only [Value.slice.injEq] at e
    omega
  · exact ⟨g, cap', e, by simp only [Value.slice.injEq] at e; omega⟩

theorem head_made (hR : R < base) (hb : base ≤ w.heap.size) (rd : Rd w R ln ch (.slice a n cap) m) (hown : w.ownsRow base 42 6 (.slice a n cap) n xs) (hm : ∀ M, m = some M → M < w.heap.size ∧ M ≠ R) (k : Nat) {w1 : World}
    (h1 : w1.ownsRow base 42 6 (.slice (some ⟨w.heap.size + 1, 0, none⟩) 0 ch) 0 []) (hg : ((w.alloc (ancObj name al)).drewN k).grownBy w1 none) :
    HeadRel w (w1.setCell ⟨R, 7, none⟩ (.slice (some ⟨w.heap.size + 1, 0, none⟩) 0 ch)) R base ln ch (.slice a n cap) n m name al := by
  have hsz : ((w.alloc (ancObj name al)).drewN k).heap.size = w.heap.size + 1 := by simp
  have hold : ∀ b, b < w.heap.size → w1.heap[b]? = w.heap[b]? := fun b hb' => (hg.block b (by omega) (by simp)).trans (Below.heap_alloc _ _ _ hb')
  have hset : ∀ b, b ≠ R → (w1.setCell ⟨R, 7, none⟩ (.slice (some ⟨w.heap.size + 1, 0, none⟩) 0 ch)).heap[b]? = w1.heap[b]? := fun b hb' => Below.heap_setCell _ _ _ _ (by simpa using hb')
  refine ⟨_, 0, [], (rd.of_block (hold R (by omega))).setSlab _, RowKit.ownsRow_setCell_below h1 (by simpa using hR) _, .inr rfl, ⟨hg.os, hg.tape, hg.output, ?_, ?_, ?_, ?_⟩, .inr ?_, Nat.zero_le _, ?_, ?_⟩
  · have := hg.size
    simp only [World.setCell, Array.size_modify]
    omega
  · intro b hb' hbR _ _
    rw [hset b hbR, hold b hb']
  · intro b o e _
    have := slab_ne hR hown b e
    exact World.cell?_of_block ((hset b this.2).trans (hold b this.1))
  · intro _ b cs t e hc
    have := slab_ne hR hown b e
    exact ⟨cs, t, ((hset b this.2).trans (hold b this.1)).trans hc⟩
  · intro b e
    simp only [Value.ownBlock, Option.some.injEq] at e
    omega
  · rw [hset _ (by omega), hg.block _ (by omega) (by simp)]
    exact heap_alloc_new w _
  · intro M hM
    rw [hset M (hm M hM).2, hold M (hm M hM).1]

theorem mid_plain {wc : World} {v1 : Value} {n1 cnt : Nat} {xs1 : List Value} {D : DataW Value} {v : Value} {s7 : Value} (rd1 : Rd wc R ln ch v1 m) (own1 : wc.ownsRow base 42 6 v1 n1 xs1) (hform : (∃ g cap, v1 = .slice (some ⟨g, 0, none⟩) n1 cap ∧ n1 < cap) ∨ n1 = 0)
    (kept1 : Kept w wc R v.ownBlock n m) (onw : Onward w v.ownBlock v1.ownBlock n n1) (hn1 : n1 ≤ n) (hanc : wc.heap[w.heap.size]? = some (ancObj name al)) (hmap : ∀ M, m = some M → wc.heap[M]? = w.heap[M]?) (hM : MapOk w m cnt D)
    (hs : s7 = .int .i64 (if name.toList.isEmpty then ln else al)) (hne : name.toList.isEmpty = false → ∃ M, m = some M) : MidRel w wc s7 R base ln ch v n m name al cnt D :=
  ⟨hs, v1, n1, xs1, m, rd1, own1, hform, kept1, onw, hn1, hanc, hM.of_block hmap, fun _ => rfl, hne, .inl rfl⟩

theorem mid_made {wc : World} {v1 : Value} {n1 cnt : Nat} {xs1 : List Value} {D : DataW Value} {v : Value} (hR : R < base) (hb : base ≤ w.heap.size) (hl : ∀ b, v.ownBlock = some b → b < w.heap.size ∧ b ≠ R) (rd1 : Rd wc R ln ch v1 none) (own1 : wc.ownsRow base 42 6 v1 n1 xs1) (hform : (∃ g cap, v1 = .slice (some ⟨g, 0, none⟩) n1 cap ∧ n1 < cap) ∨ n1 = 0)
    (kept1 : Kept w wc R v.ownBlock n none) (onw : Onward w v.ownBlock v1.ownBlock n n1) (hn1 : n1 ≤ n) (hanc : wc.heap[w.heap.size]? = some (ancObj name al)) (hM : MapOk w none cnt D) (hne : name.toList.isEmpty = false) :
    MidRel w ((wc.alloc (.map #[] 0)).setCell ⟨R, 10, none⟩ (.map (some wc.heap.size))) (.int .i64 al) R base ln ch v n none name al cnt D := by
  have hsz := kept1.size
  have hanclt : w.heap.size < wc.heap.size := by
    rcases Nat.lt_or_ge w.heap.size wc.heap.size with h | h
    · exact h
    · rw [Array.getElem?_eq_none h] at hanc; cases hanc
  have hset : ∀ b, b ≠ R → ((wc.alloc (.map #[] 0)).setCell ⟨R, 10, none⟩ (.map (some wc.heap.size))).heap[b]? = (wc.alloc (.map #[] 0)).heap[b]? := fun b hb' => Below.heap_setCell _ _ _ _ (by simpa using hb')
  have hD : D = .map [] := by
    rcases hM with ⟨_, h⟩ | ⟨M, h, _⟩
    · exact h
    · cases h
  subst hD
  refine ⟨by rw [hne]; rfl, v1, n1, xs1, some wc.heap.size, (rd1.alloc _).setMap _, RowKit.ownsRow_setCell_below (own1.alloc _) (by simpa using hR) _, hform, ?_, onw, hn1, ?_, .inr ⟨_, rfl, ?_⟩, (fun h => by rw [hne] at h; cases h), fun _ => ⟨_, rfl⟩, .inr ?_⟩
  · refine Kept.andThen kept1 (Kept.andThen (Kept.ofAlloc wc (.map #[] 0) R v.ownBlock n none ?_) (Kept.ofSet _ R 10 _ v.ownBlock n none ?_) (.inl ⟨rfl, rfl⟩) (.inl rfl) ?_) (.inl ⟨rfl, rfl⟩) (.inl rfl) ?_
    · intro b e; have := hl b e; omega
    · intro e; exact (hl R e).2 rfl
    · intro b e; have := hl b e; exact ⟨by omega, this.2, by simp⟩
    · intro b e; have := hl b e; exact ⟨this.1, this.2, by simp⟩
  · rw [hset _ (by omega), Below.heap_alloc _ _ _ hanclt]
    exact hanc
  · have h0 := (World.ownsMap_made wc Try.prog 9 ptrElem).mono (Nat.zero_le cnt)
    obtain ⟨es, clock, hh, r⟩ := h0
    exact ⟨es, clock, by rw [hset _ (by omega)]; exact hh, r⟩
  · intro b e
    cases e
    omega
end

/-- A node at ⟨g, o⟩. -/
def NodeAt (w : World) (g o : Nat) (kd ln : Int) : Prop := ∀ j u, (nodeC kd ln)[j]? = some u → w.cell? ⟨g, o + j, none⟩ = some u

/-- newNode has laid the node ⟨g, n' * 6⟩ in w', which was w. -/
structure After (w w' : World) (R base : Nat) (ln : Int) (ch : Nat) (v : Value) (n : Nat) (m : Option Nat) (g n' cap' : Nat) (m' : Option Nat) (kd line : Int) (cnt : Nat) (D : DataW Value) : Prop where
  rd : Rd w' R ln ch (.slice (some ⟨g, 0, none⟩) (n' + 1) cap') m'
  own : ∃ xs, w'.ownsRow base 42 6 (.slice (some ⟨g, 0, none⟩) (n' + 1) cap') (n' + 1) xs
  node : NodeAt w' g (n' * 6) kd line
  kept : Kept w w' R v.ownBlock n m
  fresh : (v.ownBlock = some g ∧ n' = n) ∨ w.heap.size ≤ g
  le : n' ≤ n
  map : MapOk w' m' cnt D
  mnew : m' = m ∨ ∀ b, m' = some b → w.heap.size ≤ b

theorem after_app {R base n ch : Nat} {ln kd line : Int} {a : Option Addr} {cap : Nat} {xs : List Value} {m : Option Nat} {w wc w1 : World} {v2 : Value} {n2 cnt g cap' : Nat} {xs2 : List Value} {m2 : Option Nat} {D : DataW Value}
    (hR : R < base) (hown : w.ownsRow base 42 6 (.slice a n cap) n xs) (hmo : MapOk w m cnt D) (rd2 : Rd wc R ln ch v2 m2) (own2 : wc.ownsRow base 42 6 v2 n2 xs2) (kept2 : Kept w wc R (Value.slice a n cap).ownBlock n m)
    (onw2 : Onward w (Value.slice a n cap).ownBlock v2.ownBlock n n2) (hn2 : n2 ≤ n) (hmo2 : MapOk wc m2 cnt D) (hmm : m2 = m ∨ ∀ b, m2 = some b → w.heap.size ≤ b)
    (hown1 : w1.ownsRow base 42 6 (.slice (some ⟨g, 0, none⟩) (n2 + 1) cap') (n2 + 1) (xs2 ++ nodeC kd line)) (hgrow1 : (wc.alloc (nodeObj kd line)).grownBy w1 v2.ownBlock) (hat1 : v2.ownBlock = some g ∨ g = wc.heap.size + 1)
    (hheld1 : ∀ b o, v2.ownBlock = some b → o < n2 * 6 → w1.cell? ⟨b, o, none⟩ = (wc.alloc (nodeObj kd line)).cell? ⟨b, o, none⟩) (hmark1 : 0 < n2 → ∀ b, v2.ownBlock = some b → ∃ cur, w1.heap[b]? = some (.cells cur 42 (0, 0))) :
    After w (w1.setCell ⟨R, 7, none⟩ (.slice (some ⟨g, 0, none⟩) (n2 + 1) cap')) R base ln ch (.slice a n cap) n m g n2 cap' m2 kd line cnt D := by
  have hsl := slab_ne hR hown
  have hs2 : ∀ b, v2.ownBlock = some b → b < wc.heap.size ∧ b ≠ R := fun b hb => by
    have := own2.lt b hb
    exact ⟨this.2, by omega⟩
  have hgb : base ≤ g := (hown1.lt g rfl).1
  have rd1 : Rd w1 R ln ch v2 m2 := rd_grown hR (rd2.alloc _) (own2.alloc _) hgrow1
  refine ⟨rd1.setSlab _, ⟨_, RowKit.ownsRow_setCell_below hown1 (by simpa using hR) _⟩, ?_, ?_, ?_, hn2, ?_, hmm⟩
  · intro j u hu
    have hj : j < 6 := by
      rcases Nat.lt_or_ge j 6 with h | h
      · exact h
      · rw [List.getElem?_eq_none (by simpa [nodeC] using h)] at hu; cases hu
    rw [World.cell?_of_block (w := w1) (Below.heap_setCell _ _ _ _ (by simp; omega)), hown1.cellAt _ (by omega), List.getElem?_append_right (by rw [own2.1]; omega), own2.1]
    rw [show n2 * 6 + j - n2 * 6 = j by omega]
    exact hu
  · refine Kept.andThen (m' := none) (n' := n2) (s' := v2.ownBlock) kept2 ?_ onw2 (.inr (fun b e => by cases e)) ?_
    · refine Kept.andThen (m' := none) (n' := n2) (s' := v2.ownBlock) (Kept.ofAlloc wc (nodeObj kd line) R v2.ownBlock n2 none (fun b e => (hs2 b e).1)) ?_ (.inl ⟨rfl, rfl⟩) (.inl rfl) (fun b e => ⟨(hs2 b e).1, (hs2 b e).2, by simp⟩)
      refine Kept.andThen (m' := none) (n' := n2) (s' := v2.ownBlock) (Kept.ofGrown R _ n2 none hgrow1 hheld1 hmark1) (Kept.ofSet w1 R 7 _ _ n2 none (fun e => (hs2 R e).2 rfl)) (.inl ⟨rfl, rfl⟩) (.inl rfl) (fun b e => ⟨?_, (hs2 b e).2, by simp⟩)
      have := (hs2 b e).1
      simp
      omega
    · intro b e
      obtain ⟨cur, hc⟩ := own_cells hown e
      exact ⟨(hsl b e).1, (hsl b e).2, hmo.apart hc⟩
  · have hk := kept2.size
    rcases hat1 with h | h
    · rcases onw2 with ⟨e, en⟩ | hnew
      · exact .inl ⟨by rw [← e]; exact h, en⟩
      · exact .inr (hnew g h)
    · exact .inr (by omega)
  · refine hmo2.of_block fun M hM => ?_
    have hMlt := hmo2.lt M hM
    have hMR : M ≠ R := fun e => by
      obtain ⟨f, ⟨cs, h1, _⟩, _⟩ := rd2
      exact hmo2.apart h1 (by rw [hM, e])
    rw [Below.heap_setCell _ _ _ _ (by simpa using hMR), hgrow1.block M (by simp; omega) (fun e => ?_), Below.heap_alloc _ _ _ hMlt]
    obtain ⟨cur, hc⟩ := own_cells own2 e.symm
    exact hmo2.apart hc hM

theorem After.drewN {w w' : World} {R base : Nat} {ln : Int} {ch : Nat} {v : Value} {n : Nat} {m : Option Nat} {g n' cap' : Nat} {m' : Option Nat} {kd line : Int} {cnt : Nat} {D : DataW Value} (h : After w w' R base ln ch v n m g n' cap' m' kd line cnt D) (k : Nat) :
    After w (w'.drewN k) R base ln ch v n m g n' cap' m' kd line cnt D :=
  ⟨h.rd.of_block rfl, h.own, h.node, ⟨h.kept.os, h.kept.tape, h.kept.output, h.kept.size, h.kept.block, h.kept.held, h.kept.mark⟩, h.fresh, h.le, h.map.of_block (fun _ _ => rfl), h.mnew⟩

theorem After.more {w w' : World} {R base : Nat} {ln : Int} {ch : Nat} {v : Value} {n : Nat} {m : Option Nat} {g n' cap' : Nat} {m' : Option Nat} {kd line : Int} {cnt : Nat} {D : DataW Value} (h : After w w' R base ln ch v n m g n' cap' m' kd line cnt D) :
    After w w' R base ln ch v n m g n' cap' m' kd line (cnt + 1) D :=
  ⟨h.rd, h.own, h.node, h.kept, h.fresh, h.le, (h.map.elim .inl fun ⟨M, e, ho⟩ => .inr ⟨M, e, ho.mono (Nat.le_succ _)⟩), h.mnew⟩

theorem After.ownsMap {w w' : World} {R base : Nat} {ln : Int} {ch : Nat} {v : Value} {n : Nat} {m : Option Nat} {g n' cap' M : Nat} {kd line : Int} {cnt : Nat} {D : DataW Value} (h : After w w' R base ln ch v n m g n' cap' (some M) kd line cnt D) :
    w'.ownsMap Try.prog 9 ptrElem M cnt D := by
  rcases h.map with ⟨e, _⟩ | ⟨M', e, ho⟩
  · cases e
  · cases e; exact ho

/-- The node put into the map. -/
theorem After.put {w w' w2 : World} {R base : Nat} {ln : Int} {ch : Nat} {a : Option Addr} {n cap : Nat} {xs : List Value} {m : Option Nat} {g n' cap' M : Nat} {kd line : Int} {cnt : Nat} {D D' : DataW Value} (h : After w w' R base ln ch (.slice a n cap) n m g n' cap' (some M) kd line cnt D)
    (hR : R < base) (hown : w.ownsRow base 42 6 (.slice a n cap) n xs) (hmo : MapOk w m cnt D) (hg : w'.grownBy w2 (some M)) (ho : w2.ownsMap Try.prog 9 ptrElem M (cnt + 1) D') :
    After w w2 R base ln ch (.slice a n cap) n m g n' cap' (some M) kd line (cnt + 1) D' := by
  have hgM : g ≠ M := fun e => by
    obtain ⟨xs', hx⟩ := h.own
    obtain ⟨cur, hc⟩ := own_cells hx rfl
    exact h.map.apart hc (by rw [e])
  have hRM : R ≠ M := fun e => by
    obtain ⟨f, ⟨cs, h1, _⟩, _⟩ := h.rd
    exact h.map.apart h1 (by rw [e])
  have hsM : ∀ b, (Value.slice a n cap).ownBlock = some b → b ≠ M := fun b e e2 => by
    subst e2
    rcases h.mnew with e3 | e3
    · obtain ⟨cur, hc⟩ := own_cells hown e
      exact hmo.apart hc e3.symm
    · have := e3 b rfl
      have := (slab_ne hR hown b e).1
      omega
  refine ⟨h.rd.of_block (hg.block R h.rd.lt (by simpa using hRM)), ?_, ?_, ?_, h.fresh, h.le, .inr ⟨M, rfl, ho⟩, h.mnew⟩
  · obtain ⟨xs', hx⟩ := h.own
    exact ⟨xs', hx.kept hg (.inr (by simpa [Value.ownBlock] using hgM))⟩
  · intro j u hu
    exact hg.cell (h.node j u hu) (by simpa using hgM)
  · refine Kept.andThen (m' := some M) (n' := n) (s' := (Value.slice a n cap).ownBlock) h.kept (Kept.ofMap R _ n M hg (fun b e => ⟨Nat.lt_of_lt_of_le (slab_ne hR hown b e).1 h.kept.size, hsM b e⟩)) (.inl ⟨rfl, rfl⟩) h.mnew ?_
    intro b e
    obtain ⟨cur, hc⟩ := own_cells hown e
    exact ⟨(slab_ne hR hown b e).1, (slab_ne hR hown b e).2, hmo.apart hc⟩

/-- What newNode leaves. -/
def NewPost (w : World) (R base : Nat) (ln : Int) (ch : Nat) (v : Value) (n : Nat) (m : Option Nat) (name : ByteArray) (kd al : Int) (cnt : Nat) (D : DataW Value) (e : Ending) (w' : World) : Prop :=
  ∃ g n' cap' m', e = .returned (.pointer (some ⟨g, n' * 6, none⟩)) ∧
    After w w' R base ln ch v n m g n' cap' m' kd (if name.toList.isEmpty then ln else al) (cnt + 1) (if name.toList.isEmpty then D else D.put (.string name.data.toList) (.held (.pointer (some ⟨g, n' * 6, none⟩)))) ∧
    (name.toList.isEmpty = true → m' = m) ∧ (name.toList.isEmpty = false → ∃ M, m' = some M)

set_option maxHeartbeats 400000 in
theorem newNode (R base n ch cnt : Nat) (D : DataW Value) (ln kd al : Int) (name : ByteArray) (a : Option Addr) (cap : Nat) (xs : List Value) (m : Option Nat) (w : World)
    (hR : R < base) (hb : base ≤ w.heap.size) (rd : Rd w R ln ch (.slice a n cap) m) (hown : w.ownsRow base 42 6 (.slice a n cap) n xs) (hm : MapOk w m cnt D) (hn : n ≤ 4096) (hch : ch ≤ 65536) (hcnt : cnt ≤ 4096) (hname : name.size ≤ maxLen) :
    Calls Try.prog 27 #[.pointer (some ⟨R, 0, none⟩), .int .u8 kd, .agg #[.string name, .int .i64 al]] w fun e w' => NewPost w R base ln ch (.slice a n cap) n m name kd al cnt D e w' := by
  have c7 := (rd.alloc (ancObj name al)).c7
  have RD := hid rd
  have OWN := hid hown
  have HMO := hid hm
  have HM : Hid (∀ M, m = some M → M < w.heap.size ∧ M ≠ R) := fun M h => ⟨hm.lt M h, fun e => by
    obtain ⟨f, ⟨cs, h1, _⟩, _⟩ := rd
    exact hm.apart h1 (by rw [h, e])⟩
  unfold ancObj at c7
  have hncap : n ≤ cap := by
    rcases hown.2 with ⟨e, h0⟩ | ⟨g, cap', cur, e, _, _, h, _⟩
    · omega
    · simp only [Value.slice.injEq] at e; omega
  clear rd hown hm
  go_enter Try.func27, Try.ntmps27
  go_upto_if 19 with fail
  go_quiet (fail)
  go_upto_if 19 with fail
  go_cut [] from 9 (fun wc => HeadRel w wc R base ln ch (.slice a n cap) n m name al)
  case first =>
    by_cases hfull : n = cap
    · subst hfull
      obtain ⟨i0, hi, hz0, hz1, hz2⟩ := info_parts info42
      obtain ⟨w1, hrun, hown1, hgrow⟩ := run_make_own (P := Try.prog) ((w.alloc (ancObj name al)).drewN nq) base 46 42 i0 _ 6 Try.underlying46 hi hz0 hz1 .i64 .i64 ch (by rw [hz2]; omega) (by simp only [maxLen]; omega) (by simp; omega)
      have hsz : ((w.alloc (ancObj name al)).drewN nq).heap.size = w.heap.size + 1 := by simp
      rw [hsz] at hown1 hrun
      have hR1 : w1.heap[R]? = w.heap[R]? := (hgrow.block R (by omega) (by simp)).trans (Below.heap_alloc _ _ _ (by omega))
      have c6 := (RD.out.alloc (ancObj name al)).c6
      have c71 := (RD.out.of_block hR1).c7
      have f71 := (RD.out.of_block hR1).fz 7
      have H1 := hid hown1
      have HG := hid hgrow
      clear hown1 hgrow hR1 hsz hi hz0 hz1 hz2
      unfold ancObj at c6 hrun
      go_wp2
      go_meet
      case rel => exact head_made hR hb RD.out OWN.out HM.out nq H1.out HG.out
    · have hne : ((n : Int) == (cap : Int)) = false := by simp; omega
      go_wp2
      go_meet
      case rel => exact head_room hR RD.out OWN.out (fun M h => (HM.out M h).1) (by omega) nq
  case rest =>
    clear c7
    obtain ⟨v1, n1, xs1, rd1, own1, hform, kept1, onw, hn1, hanc, hmap⟩ := hcut
    have ca0 : wc.cell? ⟨w.heap.size, 0, none⟩ = some (.string name) := by rw [cell_of_row wc _ 0 _ _ _ hanc]; rfl
    have ca1 : wc.cell? ⟨w.heap.size, 1, none⟩ = some (.int .i64 al) := by rw [cell_of_row wc _ 1 _ _ _ hanc]; rfl
    have hl : ∀ b, (Value.slice a n cap).ownBlock = some b → b < w.heap.size ∧ b ≠ R := slab_ne hR OWN.out
    have c2 := rd1.c2
    have c7 := rd1.c7
    have c10 := rd1.c10
    have f10 := rd1.fz 10
    have f7 := rd1.fz 7
    have RD1 := hid rd1
    have OWN1 := hid own1
    have FORM := hid hform
    have KEPT1 := hid kept1
    have ONW := hid onw
    have HMAP := hid hmap
    have HANC := hid hanc
    have HL := hid hl
    clear rd1 own1 hform kept1 onw hmap hanc hl
    go_upto_if 34 with fail
    go_cut [7] from 9 (fun s7 wd => MidRel w wd s7 R base ln ch (.slice a n cap) n m name al cnt D)
    case first =>
      cases hne : name.toList.isEmpty with
      | true =>
        go_wp2
        go_meet
        case rel => exact mid_plain RD1.out OWN1.out FORM.out KEPT1.out ONW.out hn1 HANC.out HMAP.out HMO.out (by rw [hne]; rfl) (fun h => by rw [hne] at h; cases h)
      | false =>
        have q := fun (w : World) (m : Option Nat) => run_eql_map_nil (P := Try.prog) w 47 9 38 m Try.underlying47
        have hmm := @run_makeMap Try.prog
        cases m with
        | none =>
          have c101 := (RD1.out.alloc (.map #[] 0)).c10
          have f101 := (RD1.out.alloc (.map #[] 0)).fz 10
          go_wp2
          go_meet
          case rel => exact mid_made hR hb HL.out RD1.out OWN1.out FORM.out KEPT1.out ONW.out hn1 HANC.out HMO.out hne
        | some M =>
          go_wp2
          go_meet
          case rel => exact mid_plain RD1.out OWN1.out FORM.out KEPT1.out ONW.out hn1 HANC.out HMAP.out HMO.out (by rw [hne]; rfl) (fun h => ⟨_, rfl⟩)
    case rest =>
      clear c2 c7 c10 f10 f7 ca0 ca1
      obtain ⟨rfl, v2, n2, xs2, m2, rd2, own2, hform2, kept2, onw2, hn2, hanc2, hmo2, hme, hmn, hmm⟩ := hcut
      obtain ⟨line, hline⟩ : ∃ line, line = (if name.toList.isEmpty then ln else al) := ⟨_, rfl⟩
      rw [← hline]
      obtain ⟨a2, cap2, rfl⟩ := slab_form own2
      have c7 := rd2.c7
      have rdA := rd2.alloc (nodeObj kd line)
      have ownA := own2.alloc (nodeObj kd line)
      have hbA : base ≤ wc.heap.size := Nat.le_trans hb kept2.size
      have RD2 := hid rd2
      have OWN2 := hid own2
      have RDA := hid rdA
      have OWNA := hid ownA
      have FORM2 := hid hform2
      have KEPT2 := hid kept2
      have ONW2 := hid onw2
      have HANC2 := hid hanc2
      have HMO2 := hid hmo2
      have HME := hid hme
      have HMN := hid hmn
      have HMM := hid hmm
      have HLINE := hid hline
      clear rd2 own2 hform2 kept2 onw2 hanc2 hmo2 hme hmn hmm hline rdA ownA
      go_wp2_with (at_builtin; refine wpList_append_node _ rfl (.tmp 50) (.tmp 54) rfl base (.slice a2 n2 cap2) n2 xs2 rfl OWNA.out FORM2.out ⟨wc.heap.size, 0, none⟩ 1 (nodeC kd line) rfl rfl (nodeC_news wc kd line) (nodeC_one kd line) (by omega) (by simp; omega) (wc.heap.size + 1) (by simp) ?_; intro g cap' w1 hown1 hgrow1 hat1 hlt1 hheld1 hmark1; have R1 := hid (rd_grown hR RDA.out OWNA.out hgrow1); have N1 := hid (anc_grown OWNA.out (anc_alloc HANC2.out) hgrow1); have ca0 := anc_c0 N1.out; have c101 := R1.out.c10; have c71 := R1.out.c7; have f71 := R1.out.fz 7; have O1 := hid hown1; have G1 := hid hgrow1; have A1 := hid hat1; have E1 := hid hheld1; have K1 := hid hmark1; clear hown1 hgrow1 hat1 hheld1 hmark1)
      go_quiet (fail)
      go_upto_if 71 with fail
      have AF := hid (fun q => (after_app hR OWN.out HMO.out RD2.out OWN2.out KEPT2.out ONW2.out hn2 HMO2.out HMM.out O1.out G1.out A1.out E1.out K1.out).drewN q)
      cases hne : name.toList.isEmpty with
      | true =>
        go_wp2
        go_ret
        refine ⟨g, n2, cap', m2, rfl, ?_, fun _ => HME.out hne, fun h => by rw [hne] at h; cases h⟩
        rw [← HLINE.out, if_pos hne]
        exact (AF.out nq).more
      | false =>
        obtain ⟨M, rfl⟩ := HMN.out hne
        obtain ⟨w5, hrun, hown5, hgrow5⟩ := ((AF.out (nq + 1)).ownsMap).update law Try.underlying47 (by simp only [maxLen]; omega) (WideMaps.keyOf_string_mk Try.underlying9 hname) (show ptrElem (.pointer (some ⟨g, n2 * 6, none⟩)) = some (.held (.pointer (some ⟨g, n2 * 6, none⟩)), []) from rfl)
        have G5 := hid hgrow5
        have O5 := hid hown5
        clear hown5 hgrow5
        go_wp2_with fail
        go_region
        all_goals
          go_wp2
          go_ret
          refine ⟨g, n2, cap', some M, rfl, ?_, (fun h => by rw [hne] at h; cases h), fun _ => ⟨M, rfl⟩⟩
          rw [← HLINE.out, if_neg (by rw [hne]; simp)]
          exact After.put (AF.out (nq + 1)) hR OWN.out HMO.out G5.out O5.out

end Go.Proofs.Qxb6601822a
