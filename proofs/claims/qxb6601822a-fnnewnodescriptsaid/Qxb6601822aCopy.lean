/- The copy of the steps, and the start of the script. No walk. -/
import Derived.Test.Qxb6601822aMade
import Derived.LaidEqlPtr
import Derived.Lib.Builder
namespace Go.Proofs.Qxb6601822a
open Go.RowKit Go.Maps

/-- Behind the copy: the steps lie in the block that was made for them. -/
def CopyRel (w wd : World) (s1 : Value) (len : Nat) (K A L : Nat → Int) (N : Nat → ByteArray) : Prop :=
  s1 = .slice (some ⟨w.heap.size, 0, none⟩) len len ∧ StepsAt wd w.heap.size 0 len K A L N ∧ Below w.heap.size w wd ∧ w.heap.size < wd.heap.size

theorem make32 (w : World) (len : Nat) (hl : len ≤ 4096) : (Instr.makeSlice 32 (.int .i64 (len : Int)) (.int .i64 (len : Int))).run Try.prog w = .ok (.slice (some ⟨w.heap.size, 0, none⟩) len len) (w.alloc (.cells (madeCells #[.int .u8 0, .string ⟨#[]⟩, .int .i64 0, .int .i64 0] (len * 4)) 35)) := by
  obtain ⟨i0, hi, hz0, hz1, hz2⟩ := info_parts info35
  have := run_make (P := Try.prog) w 32 35 i0 _ Try.underlying32 hi hz0 .i64 .i64 (len : Int) (len : Int) (by omega) (by omega) (by rw [hz2]; omega) (by omega)
  rw [hz1] at this
  exact this

/-- A step's cells, in a row. -/
def stepC (K A L : Nat → Int) (N : Nat → ByteArray) (i : Nat) : Value :=
  if i % 4 = 0 then .int .u8 (K (i / 4)) else if i % 4 = 1 then .string (N (i / 4)) else if i % 4 = 2 then .int .i64 (A (i / 4)) else .int .i64 (L (i / 4))

def CopyMid (w wr : World) (k len : Nat) (f : Nat → Value) (K A L : Nat → Int) (N : Nat → ByteArray) : Prop :=
  wr.rowIs w.heap.size 35 (len * 4) f ∧ (∀ i, i < k * 4 → f i = stepC K A L N i) ∧ Below w.heap.size w wr

section
variable {w wr : World} {k len b off : Nat} {f : Nat → Value} {K A L : Nat → Int} {N : Nat → ByteArray}

theorem copy_start (w : World) (len : Nat) (K A L : Nat → Int) (N : Nat → ByteArray) : CopyMid w (w.alloc (.cells (madeCells #[.int .u8 0, .string ⟨#[]⟩, .int .i64 0, .int .i64 0] (len * 4)) 35)) 0 len
    (fun i => (madeCells #[.int .u8 0, .string ⟨#[]⟩, .int .i64 0, .int .i64 0] (len * 4))[i]?.getD (.bool false)) K A L N := by
  refine ⟨?_, fun i hi => absurd hi (by omega), (Below.refl _ _).alloc (Nat.le_refl _) _⟩
  have h := World.rowIs_alloc w (madeCells #[.int .u8 0, .string ⟨#[]⟩, .int .i64 0, .int .i64 0] (len * 4)) 35 (fun i => (madeCells #[.int .u8 0, .string ⟨#[]⟩, .int .i64 0, .int .i64 0] (len * 4))[i]?.getD (.bool false)) (fun i hi => by
    rw [Array.getElem?_eq_getElem hi]; rfl)
  rw [size_madeCells] at h
  exact h

theorem copy_src (h : CopyMid w wr k len f K A L N) (hs : StepsAt w b off len K A L N) (hk : k < len) :
    wr.cell? ⟨b, off + k * 4, none⟩ = some (.int .u8 (K k)) ∧ wr.cell? ⟨b, off + k * 4 + 1, none⟩ = some (.string (N k)) ∧ wr.cell? ⟨b, off + k * 4 + 2, none⟩ = some (.int .i64 (A k)) ∧ wr.cell? ⟨b, off + k * 4 + 3, none⟩ = some (.int .i64 (L k)) := by
  obtain ⟨h0, h1, h2, h3, _⟩ := hs k hk
  have hb : b < w.heap.size := block_lt_of_cell h0
  exact ⟨(h.2.2.cell hb).trans h0, (h.2.2.cell hb).trans h1, (h.2.2.cell hb).trans h2, (h.2.2.cell hb).trans h3⟩

theorem copy_dst (h : CopyMid w wr k len f K A L N) (hk : k < len) :
    wr.cell? ⟨w.heap.size, k * 4, none⟩ = some (f (k * 4)) ∧ wr.cell? ⟨w.heap.size, k * 4 + 1, none⟩ = some (f (k * 4 + 1)) ∧ wr.cell? ⟨w.heap.size, k * 4 + 2, none⟩ = some (f (k * 4 + 2)) ∧ wr.cell? ⟨w.heap.size, k * 4 + 3, none⟩ = some (f (k * 4 + 3)) :=
  ⟨h.1.cell (by omega), h.1.cell (by omega), h.1.cell (by omega), h.1.cell (by omega)⟩

theorem copy_frz (h : CopyMid w wr k len f K A L N) :
    wr.frozen? ⟨w.heap.size, k * 4, none⟩ = false ∧ wr.frozen? ⟨w.heap.size, k * 4 + 1, none⟩ = false ∧ wr.frozen? ⟨w.heap.size, k * 4 + 2, none⟩ = false ∧ wr.frozen? ⟨w.heap.size, k * 4 + 3, none⟩ = false :=
  ⟨h.1.frozen _, h.1.frozen _, h.1.frozen _, h.1.frozen _⟩

theorem stepC_at (K A L : Nat → Int) (N : Nat → ByteArray) (i : Nat) : stepC K A L N (i * 4) = .int .u8 (K i) ∧ stepC K A L N (i * 4 + 1) = .string (N i) ∧ stepC K A L N (i * 4 + 2) = .int .i64 (A i) ∧ stepC K A L N (i * 4 + 3) = .int .i64 (L i) := by
  refine ⟨?_, ?_, ?_, ?_⟩
  · unfold stepC; rw [if_pos (by omega), show i * 4 / 4 = i by omega]
  · unfold stepC; rw [if_neg (by omega), if_pos (by omega), show (i * 4 + 1) / 4 = i by omega]
  · unfold stepC; rw [if_neg (by omega), if_neg (by omega), if_pos (by omega), show (i * 4 + 2) / 4 = i by omega]
  · unfold stepC; rw [if_neg (by omega), if_neg (by omega), if_neg (by omega), show (i * 4 + 3) / 4 = i by omega]

theorem copy_step (h : CopyMid w wr k len f K A L N) :
    CopyMid w ((((wr.setCell ⟨w.heap.size, k * 4, none⟩ (.int .u8 (K k))).setCell ⟨w.heap.size, k * 4 + 1, none⟩ (.string (N k))).setCell ⟨w.heap.size, k * 4 + 2, none⟩ (.int .i64 (A k))).setCell ⟨w.heap.size, k * 4 + 3, none⟩ (.int .i64 (L k))) (k + 1) len
      (fun j => if j = k * 4 + 3 then .int .i64 (L k) else if j = k * 4 + 2 then .int .i64 (A k) else if j = k * 4 + 1 then .string (N k) else if j = k * 4 then .int .u8 (K k) else f j) K A L N := by
  refine ⟨(((h.1.set _ _).set _ _).set _ _).set _ _, fun i hi => ?_, (((h.2.2.setCell (Nat.le_refl _) _).setCell (Nat.le_refl _) _).setCell (Nat.le_refl _) _).setCell (Nat.le_refl _) _⟩
  obtain ⟨e0, e1, e2, e3⟩ := stepC_at K A L N k
  show (if i = k * 4 + 3 then Value.int .i64 (L k) else if i = k * 4 + 2 then .int .i64 (A k) else if i = k * 4 + 1 then .string (N k) else if i = k * 4 then .int .u8 (K k) else f i) = _
  by_cases h3 : i = k * 4 + 3
  · rw [if_pos h3, h3, e3]
  by_cases h2 : i = k * 4 + 2
  · rw [if_neg h3, if_pos h2, h2, e2]
  by_cases h1 : i = k * 4 + 1
  · rw [if_neg h3, if_neg h2, if_pos h1, h1, e1]
  by_cases h0 : i = k * 4
  · rw [if_neg h3, if_neg h2, if_neg h1, if_pos h0, h0, e0]
  rw [if_neg h3, if_neg h2, if_neg h1, if_neg h0]
  exact h.2.1 i (by omega)

theorem copy_end (h : CopyMid w wr k len f K A L N) (hk : len ≤ k) (hs : StepsAt w b off len K A L N) : StepsAt wr w.heap.size 0 len K A L N ∧ Below w.heap.size w wr ∧ w.heap.size < wr.heap.size := by
  refine ⟨fun i hi => ?_, h.2.2, h.1.lt⟩
  obtain ⟨e0, e1, e2, e3⟩ := stepC_at K A L N i
  rw [Nat.zero_add]
  exact ⟨by rw [h.1.cell (by omega), h.2.1 _ (by omega), e0], by rw [h.1.cell (by omega), h.2.1 _ (by omega), e1], by rw [h.1.cell (by omega), h.2.1 _ (by omega), e2], by rw [h.1.cell (by omega), h.2.1 _ (by omega), e3], (hs i hi).2.2.2.2⟩
end

def readerObj (ch : Nat) : Obj := .cells #[.string ⟨#[]⟩, .int .i64 0, .int .i64 1, .int .i64 0, .int .i64 0, .int .i64 0, .int .i64 ch, .slice none 0 0, .slice none 0 0, .slice none 0 0, .map none] 49
def nodesObj (len : Nat) : Obj := .cells (madeCells #[.pointer none] len) 38

theorem lay_start {w wc : World} (hsz : w.heap.size < wc.heap.size) : Lay w w.heap.size wc.heap.size (wc.heap.size + 1) (wc.heap.size + 2) := ⟨Nat.le_refl _, hsz, by omega, by omega⟩

theorem made_start {w wc : World} {len ch : Nat} {K A L : Nat → Int} {N : Nat → ByteArray} (hst : StepsAt wc w.heap.size 0 len K A L N) (hb : Below w.heap.size w wc) (hsz : w.heap.size < wc.heap.size) (p : Nat → Nat × Nat) :
    Made w ((wc.alloc (readerObj ch)).alloc (nodesObj len)) w.heap.size wc.heap.size (wc.heap.size + 1) (wc.heap.size + 2) len ch 0 K A L N p 1 none 0 0 none := by
  have e1 : (wc.alloc (readerObj ch)).heap.size = wc.heap.size + 1 := by simp
  have hr := World.rowIs_alloc wc #[.string ⟨#[]⟩, .int .i64 0, .int .i64 1, .int .i64 0, .int .i64 0, .int .i64 0, .int .i64 ch, .slice none 0 0, .slice none 0 0, .slice none 0 0, .map none] 49
    (fun i => (#[Value.string ⟨#[]⟩, .int .i64 0, .int .i64 1, .int .i64 0, .int .i64 0, .int .i64 0, .int .i64 ch, .slice none 0 0, .slice none 0 0, .slice none 0 0, .map none] : Array Value)[i]?.getD (.bool false)) (fun i hi => by rw [Array.getElem?_eq_getElem hi]; rfl)
  have hn := World.rowIs_made (wc.alloc (readerObj ch)) (.pointer none) len 38
  rw [e1] at hn
  refine ⟨Rd.alloc ⟨_, hr, rfl, rfl, rfl, rfl⟩ _, ⟨[], World.ownsRow_nil _ _ _ _⟩, Nat.le_refl _, by simp, ?_, hn.congr (fun i _ => by simp), fun j hj => absurd hj (by omega), fun j hj => absurd hj (by omega), fun j hj => absurd hj (by omega), fun i j _ hj => absurd hj (by omega), .inl ⟨rfl, rfl⟩, (fun M h => by cases h), ⟨fun _ j hj => absurd hj (by omega), fun _ => rfl⟩, ?_⟩
  · refine (hst.of_block (w' := wc.alloc (readerObj ch)) (Below.heap_alloc _ _ _ hsz)).of_block (Below.heap_alloc _ _ _ (by omega))
  · exact (hb.alloc (by omega) _).alloc (by omega) _

/-- The nodes' row behind newNode. -/
theorem Made.row_after {w0 w w' : World} {SB R NB base len ch k : Nat} {K A L : Nat → Int} {N : Nat → ByteArray} {p : Nat → Nat × Nat} {ln : Int} {a : Option Addr} {n cap : Nat} {m : Option Nat} {g n' cap' : Nat} {m' : Option Nat} {kd line : Int} {cnt : Nat} {D : DataW Value}
    (h : Made w0 w SB R NB base len ch k K A L N p ln a n cap m) (lay : Lay w0 SB R NB base) (q : After w w' R base ln ch (.slice a n cap) n m g n' cap' m' kd line cnt D) : w'.rowIs NB 38 len (fun j => if j < k then ptrOf (p j) else .pointer none) := by
  have h3 := lay.rn
  have h4 := lay.nb
  have hb := h.hb
  obtain ⟨xs, ho⟩ := h.own
  exact h.nodes.of_block (q.kept.block NB (by omega) (by omega) (fun e => by have := (ho.lt NB e).1; omega) (fun e => by have := h.mge NB e; omega))

theorem steps_cells {w : World} {b len k : Nat} {K A L : Nat → Int} {N : Nat → ByteArray} (h : StepsAt w b 0 len K A L N) (hk : k < len) :
    w.cell? ⟨b, k * 4, none⟩ = some (.int .u8 (K k)) ∧ w.cell? ⟨b, k * 4 + 1, none⟩ = some (.string (N k)) ∧ w.cell? ⟨b, k * 4 + 2, none⟩ = some (.int .i64 (A k)) ∧ w.cell? ⟨b, k * 4 + 3, none⟩ = some (.int .i64 (L k)) ∧ (N k).size ≤ maxLen := by
  have := h k hk
  rwa [Nat.zero_add] at this

theorem node_cells {w0 w : World} {SB R NB base len ch k q : Nat} {K A L : Nat → Int} {N : Nat → ByteArray} {p : Nat → Nat × Nat} {ln : Int} {a : Option Addr} {n cap : Nat} {m : Option Nat} {g o : Nat}
    (h : Made w0 w SB R NB base len ch k K A L N p ln a n cap m) (hq : q < k) (hk : k ≤ len) (e : p q = (g, o)) :
    w.cell? ⟨NB, q, none⟩ = some (.pointer (some ⟨g, o, none⟩)) ∧ w.cell? ⟨g, o, none⟩ = some (.int .u8 (K q)) ∧ w.cell? ⟨g, o + 1, none⟩ = some (.bool false) ∧ w.cell? ⟨g, o + 2, none⟩ = some (.int .i64 (if (N q).toList.isEmpty then L q else A q)) ∧
    w.cell? ⟨g, o + 3, none⟩ = some (.string ⟨#[]⟩) ∧ w.cell? ⟨g, o + 4, none⟩ = some (.slice none 0 0) ∧ w.cell? ⟨g, o + 5, none⟩ = some (.pointer none) := by
  have hn := h.node q hq
  rw [e] at hn
  refine ⟨?_, by simpa using hn 0 _ rfl, hn 1 _ rfl, hn 2 _ rfl, hn 3 _ rfl, hn 4 _ rfl, hn 5 _ rfl⟩
  rw [h.nodes.cell (i := q) (by omega), if_pos hq, e]
  rfl

theorem Made.drewN {w0 w : World} {SB R NB base len ch k : Nat} {K A L : Nat → Int} {N : Nat → ByteArray} {p : Nat → Nat × Nat} {ln : Int} {a : Option Addr} {n cap : Nat} {m : Option Nat}
    (h : Made w0 w SB R NB base len ch k K A L N p ln a n cap m) (q : Nat) : Made w0 (w.drewN q) SB R NB base len ch k K A L N p ln a n cap m :=
  ⟨h.rd.of_block rfl, h.own, h.nk, h.hb, h.steps, h.nodes, h.node, h.place, h.blk, h.dist, h.map, h.mge, h.mnone, ⟨h.bel.os, h.bel.tape, h.bel.output, h.bel.size, h.bel.block⟩⟩

theorem node_ne {w0 w : World} {SB R NB base len ch k j : Nat} {K A L : Nat → Int} {N : Nat → ByteArray} {p : Nat → Nat × Nat} {ln : Int} {a : Option Addr} {n cap : Nat} {m : Option Nat} {g o : Nat}
    (h : Made w0 w SB R NB base len ch len K A L N p ln a n cap m) (hj : j < k) (hk : k < len) (e : p k = (g, o)) : ∃ g1 o1, w.cell? ⟨NB, j, none⟩ = some (.pointer (some ⟨g1, o1, none⟩)) ∧ (binOp .eql 38 (.pointer (some ⟨g1, o1, none⟩)) (.pointer (some ⟨g, o, none⟩))).run Try.prog w = .ok (.bool false) w := by
  obtain ⟨g1, o1, e1⟩ : ∃ g1 o1, p j = (g1, o1) := ⟨_, _, rfl⟩
  refine ⟨g1, o1, (node_cells h (by omega) (Nat.le_refl _) e1).1, ?_⟩
  obtain ⟨c1, t1, h1⟩ := h.blk j (by omega)
  obtain ⟨c2, t2, h2⟩ := h.blk k hk
  rw [e1] at h1
  rw [e] at h2
  obtain ⟨i0, hi, _, hz1, _⟩ := info_parts info42
  refine run_eql_ptr_other (P := Try.prog) w Try.underlying38 hi (by omega) ?_ h1 h2
  intro e2
  simp only [Addr.mk.injEq, and_true] at e2
  exact h.dist j k hj hk (by rw [e, e1, e2.1, e2.2])

end Go.Proofs.Qxb6601822a
