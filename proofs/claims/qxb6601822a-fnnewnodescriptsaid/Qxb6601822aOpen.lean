/- A slice of steps that came in, opened. No walk. -/
import Derived.Test.Qxb6601822aCallees
import Derived.ProofKit
import Derived.Deep.Slices
namespace Go.Proofs.Qxb6601822a
open Go.ChangeShapes Go.WideShapes Go.RowKit

theorem cells35 : Try.prog.cellsOf 35 = 4 := by kernel_rfl
theorem cells5 : Try.prog.cellsOf 5 = 1 := by kernel_rfl
theorem cells9 : Try.prog.cellsOf 9 = 1 := by kernel_rfl
theorem cells3 : Try.prog.cellsOf 3 = 1 := by kernel_rfl

theorem four {α : Type} {l : List α} (h : l.length = 4) : ∃ a b c d, l = [a, b, c, d] := by
  match l, h with
  | [a, b, c, d], _ => exact ⟨a, b, c, d, rfl⟩

section
variable {H : Type} {enc : TypeId × Value → H} {w : World} {base : Nat} {spare : Nat → Bool} {held : Bool}

theorem open_steps {fuel : Nat} {cs : List Value} {x : DataW H × List MemPlace} (hsp : ∀ b, spare b = true) (h : DataW.trod enc Try.prog w base spare held fuel 32 cs = some x) :
    cs = [.slice none 0 0] ∨ ∃ (a : Addr) (len cap : Nat) (K A L : Nat → Int) (N : Nat → ByteArray), cs = [.slice (some a) len cap] ∧ len ≤ maxLen ∧
      ∀ i, i < len → w.cell? (a.add (i * 4)) = some (.int .u8 (K i)) ∧ w.cell? (a.add (i * 4 + 1)) = some (.string (N i)) ∧ w.cell? (a.add (i * 4 + 2)) = some (.int .i64 (A i)) ∧ w.cell? (a.add (i * 4 + 3)) = some (.int .i64 (L i)) ∧ (N i).size ≤ maxLen := by
  rcases Deep.open_slice Try.underlying32 h with ⟨h0, _⟩ | ⟨a, len, cap, m, n, D, Pl, rfl, hb, hl, hm, hmm, rfl, hx⟩
  · exact Or.inl h0
  right
  have hlm : len ≤ m := by rw [hmm, hsp]; simpa using hl
  have each : ∀ i, i < len → ∃ q : Int × ByteArray × Int × Int, w.cell? (a.add (i * 4)) = some (.int .u8 q.1) ∧ w.cell? (a.add (i * 4 + 1)) = some (.string q.2.1) ∧ w.cell? (a.add (i * 4 + 2)) = some (.int .i64 q.2.2.1) ∧ w.cell? (a.add (i * 4 + 3)) = some (.int .i64 q.2.2.2) ∧ q.2.1.size ≤ maxLen := by
    intro i hi
    obtain ⟨cs', h1, h2⟩ := hx i (by omega)
    rw [cells35] at h1
    obtain ⟨_, hlen, hcell⟩ := World.cells?_some h1
    obtain ⟨xs, k, hk, hxy, _, hxl, hf⟩ := DataW.trod_struct Try.underlying35 h2
    obtain ⟨v0, v1, v2, v3, rfl⟩ := four hlen
    obtain ⟨y0, y1, y2, y3, rfl⟩ := four hxl
    have g0 : DataW.trod enc Try.prog w base spare held k 5 [v0] = some y0 := by simpa [cells5] using hf 0 _ rfl
    have g1 : DataW.trod enc Try.prog w base spare held k 9 [v1] = some y1 := by simpa [cells9] using hf 1 _ rfl
    have g2 : DataW.trod enc Try.prog w base spare held k 3 [v2] = some y2 := by simpa [cells3] using hf 2 _ rfl
    have g3 : DataW.trod enc Try.prog w base spare held k 3 [v3] = some y3 := by simpa [cells3] using hf 3 _ rfl
    obtain ⟨z0, e0, _, _⟩ := DataW.trod_int Try.underlying5 g0
    obtain ⟨z1, e1, _, hz1⟩ := DataW.trod_string Try.underlying9 g1
    obtain ⟨z2, e2, _, _⟩ := DataW.trod_int Try.underlying3 g2
    obtain ⟨z3, e3, _, _⟩ := DataW.trod_int Try.underlying3 g3
    have c0 := hcell 0 (by omega)
    have c1 := hcell 1 (by omega)
    have c2 := hcell 2 (by omega)
    have c3 := hcell 3 (by omega)
    rw [Deep.add_add] at c0 c1 c2 c3
    simp at e0 e1 e2 e3 c0 c1 c2 c3
    subst e0 e1 e2 e3
    exact ⟨(z0, z1, z2, z3), c0, c1, c2, c3, hz1⟩
  obtain ⟨q, hq⟩ := Deep.choose_lt each
  exact ⟨a, len, cap, fun i => (q i).1, fun i => (q i).2.2.1, fun i => (q i).2.2.2, fun i => (q i).2.1, rfl, Nat.le_trans hl hm, hq⟩

theorem steps_at {a : Addr} {len : Nat} {K A L : Nat → Int} {N : Nat → ByteArray} (hp : 0 < len)
    (h : ∀ i, i < len → w.cell? (a.add (i * 4)) = some (.int .u8 (K i)) ∧ w.cell? (a.add (i * 4 + 1)) = some (.string (N i)) ∧ w.cell? (a.add (i * 4 + 2)) = some (.int .i64 (A i)) ∧ w.cell? (a.add (i * 4 + 3)) = some (.int .i64 (L i)) ∧ (N i).size ≤ maxLen) :
    ∃ b off, a = ⟨b, off, none⟩ ∧ StepsAt w b off len K A L N := by
  obtain ⟨b, off, spot⟩ := a
  have h0 := (h 0 hp).1
  have hspot : spot = none := by simpa [Addr.add] using World.cell?_spot h0
  subst hspot
  refine ⟨b, off, rfl, fun i hi => ?_⟩
  obtain ⟨h0, h1, h2, h3, h4⟩ := h i hi
  rw [add_plain] at h0 h1 h2 h3
  exact ⟨h0, h1, h2, h3, h4⟩
end
end Go.Proofs.Qxb6601822a
