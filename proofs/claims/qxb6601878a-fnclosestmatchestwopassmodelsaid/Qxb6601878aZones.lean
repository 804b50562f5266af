/- The zones of the Closest laws, in memory. No great walk. -/
import Derived.Test.Qxb6601878aClosest
namespace Go.Proofs.Qxb6601878a
open Go.RowKit

/-- What is left of a sequence behind its first n statements. -/
def dropSeq : Nat → Code → Code
  | 0, c => c
  | n + 1, .seq _ b => dropSeq n b
  | _ + 1, c => c

theorem info24 : (Try.prog.info? 24).map (fun i => (i.zero, i.size, i.bytes)) = some (some (.agg #[.string ⟨#[]⟩]), 1, 16) := by kernel_rfl

theorem make33 (w : World) (len : Nat) (hl : len ≤ 1048576) : (Instr.makeSlice 33 (.int .i64 (len : Int)) (.int .i64 (len : Int))).run Try.prog w = .ok (.slice (some ⟨w.heap.size, 0, none⟩) len len) (w.alloc (.cells (madeCells #[.string ⟨#[]⟩] len) 24)) := by
  obtain ⟨i0, hi, hz0, hz1, hz2⟩ := info_parts info24
  have := run_make (P := Try.prog) w 33 24 i0 _ Try.underlying33 hi hz0 .i64 .i64 (len : Int) (len : Int) (by omega) (by omega) (by rw [hz2]; omega) (by omega)
  rw [hz1, Nat.mul_one] at this
  exact this

theorem make33_room (w : World) (len : Nat) (hl : len ≤ 1048576) : (Instr.makeSlice 33 (.int .i64 0) (.int .i64 (len : Int))).run Try.prog w = .ok (.slice (some ⟨w.heap.size, 0, none⟩) 0 len) (w.alloc (.cells (madeCells #[.string ⟨#[]⟩] len) 24)) := by
  obtain ⟨i0, hi, hz0, hz1, hz2⟩ := info_parts info24
  have := run_make (P := Try.prog) w 33 24 i0 _ Try.underlying33 hi hz0 .i64 .i64 0 (len : Int) (by omega) (by omega) (by rw [hz2]; omega) (by omega)
  rw [hz1, Nat.mul_one] at this
  exact this

def zAt (zs : List ByteArray) (i : Nat) : Value := .string (zs.getD i ⟨#[]⟩)

/-- The name's box, the zones' row. -/
structure Tz (w0 wd : World) (pn ZB : Nat) (n : ByteArray) (zs : List ByteArray) : Prop where
  cn : wd.cell? ⟨pn, 0, none⟩ = some (.string n)
  row : wd.rowIs ZB 24 zs.length (zAt zs)
  bel : Below w0.heap.size w0 wd

theorem Tz.on {w0 wd w' : World} {pn ZB : Nat} {n : ByteArray} {zs : List ByteArray} (h : Tz w0 wd pn ZB n zs) (hb : Below wd.heap.size wd w') : Tz w0 w' pn ZB n zs :=
  ⟨(hb.cell (block_lt_of_cell h.cn)).trans h.cn, h.row.of_block (hb.block _ h.row.lt), h.bel.trans (hb.mono h.bel.size)⟩

/-- .. and the first answer's box. -/
structure Tg (w0 wd : World) (pn ZB pg : Nat) (n : ByteArray) (zs : List ByteArray) (g : ByteArray) : Prop where
  tz : Tz w0 wd pn ZB n zs
  cg : wd.cell? ⟨pg, 0, none⟩ = some (.string g)

theorem Tg.on {w0 wd w' : World} {pn ZB pg : Nat} {n g : ByteArray} {zs : List ByteArray} (h : Tg w0 wd pn ZB pg n zs g) (hb : Below wd.heap.size wd w') : Tg w0 w' pn ZB pg n zs g :=
  ⟨h.tz.on hb, (hb.cell (block_lt_of_cell h.cg)).trans h.cg⟩

/-- A box for an answer. -/
theorem Tz.box {w0 wd : World} {pn ZB : Nat} {n g : ByteArray} {zs : List ByteArray} (h : Tz w0 wd pn ZB n zs) : Tg w0 (wd.alloc (.cells #[.string g] 24)) pn ZB wd.heap.size n zs g :=
  ⟨h.on ((Below.refl _ _).alloc (Nat.le_refl _) _), zone_new wd g⟩

theorem Tz.cells {w0 wd : World} {pn ZB : Nat} {n : ByteArray} {zs : List ByteArray} (h : Tz w0 wd pn ZB n zs) : ∀ i, i < zs.length → wd.cell? ⟨ZB, 0 + i, none⟩ = some (.string (zs.getD i ⟨#[]⟩)) :=
  fun i hi => by rw [Nat.zero_add]; exact h.row.cell hi

/-! ### The plain law of the closest zone -/

theorem inN_root (n : ByteArray) : inN n ⟨#[]⟩ = true := inB_root _

theorem clo_snoc (n : ByteArray) (zs : List ByteArray) (z : ByteArray) : clo n (zs ++ [z]) = cstep n (clo n zs) z := by
  unfold clo
  rw [List.foldl_append]
  rfl

theorem clo_root (n : ByteArray) (zs : List ByteArray) : clo n (zs ++ [⟨#[]⟩]) = if (clo n zs).2 then ((clo n zs).1, true) else (⟨#[]⟩, true) := by
  rw [clo_snoc]
  obtain ⟨b, f⟩ := clo n zs
  cases f
  · exact cstep_first (inN_root n)
  · exact cstep_less (Nat.not_lt_zero _)

theorem fold_filter (n : ByteArray) : ∀ (zs : List ByteArray) (p : ByteArray × Bool), (zs.filter (inN n)).foldl (cstep n) p = zs.foldl (cstep n) p
  | [], _ => rfl
  | z :: zs, p => by
    rw [List.filter_cons]
    cases h : inN n z with
    | true =>
      rw [if_pos rfl, List.foldl_cons, List.foldl_cons]
      exact fold_filter n zs _
    | false =>
      rw [if_neg (by simp), List.foldl_cons, fold_filter n zs]
      obtain ⟨b, f⟩ := p
      rw [cstep_no h]

theorem clo_filter (n : ByteArray) (zs : List ByteArray) : clo n (zs.filter (inN n)) = clo n zs := fold_filter n zs _

end Go.Proofs.Qxb6601878a
