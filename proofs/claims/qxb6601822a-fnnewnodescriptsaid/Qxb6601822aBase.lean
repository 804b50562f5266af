/- Laws on worlds for FnNewNodeScript: one node appended to the slab. No walk. -/
import Derived.Test.Qxb6601822aSmall
namespace Go.Proofs.Qxb6601822a
open Go.RowKit Go.Maps

theorem info42 : (Try.prog.info? 42).map (fun i => (i.zero, i.size, i.bytes)) = some (some (.agg #[.int .u8 0, .bool false, .int .i64 0, .string ⟨#[]⟩, .slice none 0 0, .pointer none]), 6, 64) := by kernel_rfl
theorem info35 : (Try.prog.info? 35).map (fun i => (i.zero, i.size, i.bytes)) = some (some (.agg #[.int .u8 0, .string ⟨#[]⟩, .int .i64 0, .int .i64 0]), 4, 40) := by kernel_rfl
theorem info38 : (Try.prog.info? 38).map (fun i => (i.zero, i.size, i.bytes)) = some (some (.pointer none), 1, 8) := by kernel_rfl

theorem own_cells {w : World} {base : Nat} {v : Value} {n : Nat} {xs : List Value} (hown : w.ownsRow base 42 6 v n xs) {b : Nat} (hb : v.ownBlock = some b) : ∃ cur, w.heap[b]? = some (.cells cur 42 (0, 0)) := by
  rcases hown.2 with ⟨e', _⟩ | ⟨g, cap', cur, e', _, hg, _⟩
  · subst e'; simp [Value.ownBlock] at hb
  · subst e'
    simp only [Value.ownBlock, Option.some.injEq] at hb
    subst hb
    exact ⟨cur, hg⟩

/-- ONE NODE APPENDED: there is room, or nothing is held yet. -/
theorem run_append_node (w : World) (ty : TypeId) (base : Nat) (v : Value) (n : Nat) (xs : List Value) (hown : w.ownsRow base 42 6 v n xs)
    (hform : (∃ g cap, v = .slice (some ⟨g, 0, none⟩) n cap ∧ n < cap) ∨ n = 0)
    (ad : Addr) (c : Nat) (news : List Value) (hl : news.length = 6) (hnews : ∀ j u, news[j]? = some u → w.cell? (ad.add j) = some u) (h1 : ∀ u ∈ news, u.oneCell' = true)
    (hn : n ≤ 65536) (hbase : base ≤ w.heap.size) (H : Nat) (hH : w.heap.size = H) :
    ∃ g cap w', (Builtin.append_ #[46, 46] ty #[v, .slice (some ad) 1 c]).run Try.prog w = .ok (.slice (some ⟨g, 0, none⟩) (n + 1) cap) w' ∧
      w'.ownsRow base 42 6 (.slice (some ⟨g, 0, none⟩) (n + 1) cap) (n + 1) (xs ++ news) ∧ w.grownBy w' v.ownBlock ∧ (v.ownBlock = some g ∨ g = H) ∧ g < w'.heap.size ∧
      (∀ b o, v.ownBlock = some b → o < n * 6 → w'.cell? ⟨b, o, none⟩ = w.cell? ⟨b, o, none⟩) ∧ (0 < n → ∀ b, v.ownBlock = some b → ∃ cur, w'.heap[b]? = some (.cells cur 42 (0, 0))) := by
  obtain ⟨i, hi, hz0, hz1, hz2⟩ := info_parts info42
  rcases hform with ⟨g, cap, rfl, hc⟩ | h0
  · obtain ⟨w', hr, ho, hg⟩ := run_append_fits (P := Try.prog) w base 46 ty 42 i 6 Try.underlying46 hi hz1 g n cap xs hown ad 1 c news (by omega) hnews h1 (by omega)
    refine ⟨g, cap, w', hr, ho, hg, .inl rfl, ?_, ?_, fun _ b hb => own_cells ho hb⟩
    · have := hown.lt g rfl
      exact Nat.lt_of_lt_of_le this.2 hg.size
    · intro b o hb hlt
      simp only [Value.ownBlock, Option.some.injEq] at hb
      subst hb
      rw [ho.cellAt o (by omega), hown.cellAt o hlt, List.getElem?_append_left (by rw [hown.1]; exact hlt)]
  · subst h0
    obtain ⟨g, cap, w', hr, ho, hg, hat, hlt⟩ := run_append_lies (P := Try.prog) w 46 ty base 42 i _ 6 64 Try.underlying46 hi hz0 hz1 hz2 rfl (by omega) v 0 xs hown ad 1 c news (by omega) hnews h1 (by omega) (by simp [maxLen]) (by omega) hbase H hH
    exact ⟨g, cap, w', hr, ho, hg, hat, hlt, (fun b o _ h => absurd h (by omega)), fun h => absurd h (by omega)⟩

theorem wpList_append_node (w : World) {ops : Array Oper} {rest : List Oper} {o : Oper} {a : Act} {Q : Exit → Act → World → Prop}
    (hg : o.guard = none) (s x : Operand) (hop : o.op = Op.call { callee := Callee.builtin Builtin.append, args := #[s, x], argTypes := #[46, 46] })
    (base : Nat) (v : Value) (n : Nat) (xs : List Value) (hs : a.eval s = v) (hown : w.ownsRow base 42 6 v n xs)
    (hform : (∃ g cap, v = .slice (some ⟨g, 0, none⟩) n cap ∧ n < cap) ∨ n = 0)
    (ad : Addr) (c : Nat) (news : List Value) (hx : a.eval x = .slice (some ad) 1 c) (hl : news.length = 6) (hnews : ∀ j u, news[j]? = some u → w.cell? (ad.add j) = some u) (h1 : ∀ u ∈ news, u.oneCell' = true)
    (hn : n ≤ 65536) (hbase : base ≤ w.heap.size) (H : Nat) (hH : w.heap.size = H)
    (hK : ∀ g cap w', w'.ownsRow base 42 6 (.slice (some ⟨g, 0, none⟩) (n + 1) cap) (n + 1) (xs ++ news) → w.grownBy w' v.ownBlock → (v.ownBlock = some g ∨ g = H) → g < w'.heap.size →
      (∀ b o, v.ownBlock = some b → o < n * 6 → w'.cell? ⟨b, o, none⟩ = w.cell? ⟨b, o, none⟩) → (0 < n → ∀ b, v.ownBlock = some b → ∃ cur, w'.heap[b]? = some (.cells cur 42 (0, 0))) → wpList Try.prog ops Q rest (a.put o.dst (.slice (some ⟨g, 0, none⟩) (n + 1) cap)) w') :
    wpList Try.prog ops Q (o :: rest) a w := by
  refine wpList_plain hg fun K hK' => ?_
  obtain ⟨g, cap, w', hrun, r1, r2, r3, r4, r5, r6⟩ := run_append_node w o.type base v n xs hown hform ad c news hl hnews h1 hn hbase H hH
  unfold Oper.wp
  simp [execOp, hop, resolve, invoke, builtin, hs, hx, hrun, Result.andThen]
  exact hK' _ _ (hK g cap w' r1 r2 r3 r4 r5 r6)

end Go.Proofs.Qxb6601822a
