/- The zones' texts as they come in; the length bounds. -/
import Derived.Test.Qxb6601878aKept
namespace Go.Proofs.Qxb6601878a
open Go.RowKit
attribute [local go_sem ↓] Go.wp_at_zero Go.wp_at_succ

/-- A slice of strings that came in, nil or empty or not. -/
structure Zw (w : World) (ad : Option Addr) (zs : List ByteArray) : Prop where
  len : zs.length ≤ maxLen
  small : ∀ i, i < zs.length → (zs.getD i ⟨#[]⟩).size ≤ maxLen
  at_ : 0 < zs.length → ∃ b off, ad = some ⟨b, off, none⟩ ∧ ∀ i, i < zs.length → w.cell? ⟨b, off + i, none⟩ = some (.string (zs.getD i ⟨#[]⟩))

theorem Zw.get {w : World} {ad : Option Addr} {zs : List ByteArray} (h : Zw w ad zs) {k : Nat} (hk : k < zs.length) : ∃ b off z, ad = some ⟨b, off, none⟩ ∧ w.cell? ⟨b, off + k, none⟩ = some (.string z) ∧ zs.getD k ⟨#[]⟩ = z ∧ z.size ≤ maxLen := by
  obtain ⟨b, off, h1, h2⟩ := h.at_ (by omega)
  exact ⟨b, off, _, h1, h2 k hk, rfl, h.small k hk⟩

theorem Zw.below {w w' : World} {ad : Option Addr} {zs : List ByteArray} (h : Zw w ad zs) (hb : Below w.heap.size w w') : Zw w' ad zs :=
  ⟨h.len, h.small, fun hp => by
    obtain ⟨b, off, h1, h2⟩ := h.at_ hp
    exact ⟨b, off, h1, fun i hi => (hb.cell (block_lt_of_cell (h2 i hi))).trans (h2 i hi)⟩⟩

def IsBz (zs : List ByteArray) (e : Ending) : Prop := ∃ x : Bool, e = .returned (.bool x) ∧ (x = true → ∀ j, j < zs.length → (zs.getD j ⟨#[]⟩).size ≤ 1048576)

theorem small_snoc {zs : List ByteArray} {k : Nat} {z : ByteArray} (h : ∀ j, j < k → (zs.getD j ⟨#[]⟩).size ≤ 1048576) (hz : zs.getD k ⟨#[]⟩ = z) (hs : z.size ≤ 1048576) : ∀ j, j < k + 1 → (zs.getD j ⟨#[]⟩).size ≤ 1048576 := fun j hj => by
  by_cases e : j = k
  · subst e; rw [hz]; exact hs
  · exact h j (by omega)

set_option maxHeartbeats 400000 in
theorem bytes23 (n : ByteArray) (ad : Option Addr) (cap : Nat) (zs : List ByteArray) (w : World) (hn : n.size ≤ maxLen) (hz : Zw w ad zs) :
    Calls Try.prog 23 #[.string n, .slice ad zs.length cap] w fun e w' => IsBz zs e ∧ w = w' := by
  have hl := hz.len
  unfold maxLen at hn hl
  have HZ := hid hz
  clear hz
  by_cases hb0 : 1048576 < n.size
  · go_enter Try.func23, Try.ntmps23
    go_wp2
    go_ret
    exact ⟨⟨_, rfl, fun h => by cases h⟩, rfl⟩
  · by_cases hb1 : 1048576 < zs.length
    · have d0 : decide ((1048576 : Int) < (n.size : Int)) = false := by simp; omega
      go_enter Try.func23, Try.ntmps23
      go_wp2
      go_ret
      exact ⟨⟨_, rfl, fun h => by cases h⟩, rfl⟩
    · by_cases hb2 : 1048576 < n.size + zs.length
      · have d0 : decide ((1048576 : Int) < (n.size : Int)) = false := by simp; omega
        have d1 : decide ((1048576 : Int) < (zs.length : Int)) = false := by simp; omega
        go_enter Try.func23, Try.ntmps23
        go_wp2
        go_ret
        exact ⟨⟨_, rfl, fun h => by cases h⟩, rfl⟩
      · have d0 : decide ((1048576 : Int) < (n.size : Int)) = false := by simp; omega
        have d1 : decide ((1048576 : Int) < (zs.length : Int)) = false := by simp; omega
        have d2 : decide ((1048576 : Int) < (n.size : Int) + (zs.length : Int)) = false := by simp; omega
        go_enter Try.func23, Try.ntmps23
        go_wp2
        clear d0 d1 d2
        go_loop [5, 6] (fun z i => ∃ k q : Nat, k ≤ zs.length ∧ q ≤ 1048576 ∧ z = .int .i64 q ∧ i = .int .i64 k ∧ ∀ j, j < k → (zs.getD j ⟨#[]⟩).size ≤ 1048576) (fun _ i => zs.length - (intOf i).toNat)
        case atStart => exact ⟨0, n.size + zs.length, Nat.zero_le _, by omega, by go_num, rfl, fun j hj => by omega⟩
        case round =>
          obtain ⟨k, q, hk, hq, rfl, rfl, hsm⟩ := hrel
          have HSM := hid hsm
          clear hsm
          by_cases hlt : k < zs.length
          · obtain ⟨b, off, z, rfl, h1, hzz, hsz⟩ := HZ.out.get hlt
            have HZZ := hid hzz
            clear hzz
            unfold maxLen at hsz
            by_cases h3 : 1048576 < z.size
            · go_wp2
              go_ret
              exact ⟨⟨_, rfl, fun h => by cases h⟩, rfl⟩
            · by_cases h4 : 1048576 < q + z.size
              · go_wp2
                go_ret
                exact ⟨⟨_, rfl, fun h => by cases h⟩, rfl⟩
              · go_wp2
                go_round
                case rel => exact ⟨k + 1, q + z.size, by omega, by omega, by go_num, by go_num, small_snoc HSM.out HZZ.out (by omega)⟩
                case measure => simp [intOf]; omega
          · obtain rfl : k = zs.length := by omega
            go_wp2
            go_ret
            exact ⟨⟨_, rfl, fun _ => HSM.out⟩, rfl⟩

set_option maxHeartbeats 400000 in
theorem bytes20 (n : ByteArray) (ad : Option Addr) (cap : Nat) (zs : List ByteArray) (w : World) (hn : n.size ≤ maxLen) (hz : Zw w ad zs) :
    Calls Try.prog 20 #[.string n, .slice ad zs.length cap] w fun e w' => IsBz zs e ∧ w = w' := by
  have hl := hz.len
  unfold maxLen at hn hl
  have HZ := hid hz
  clear hz
  by_cases hb0 : 1048576 < n.size
  · go_enter Try.func20, Try.ntmps20
    go_wp2
    go_ret
    exact ⟨⟨_, rfl, fun h => by cases h⟩, rfl⟩
  · by_cases hb1 : 1048576 < zs.length
    · have d0 : decide ((1048576 : Int) < (n.size : Int)) = false := by simp; omega
      go_enter Try.func20, Try.ntmps20
      go_wp2
      go_ret
      exact ⟨⟨_, rfl, fun h => by cases h⟩, rfl⟩
    · by_cases hb2 : 1048576 < n.size + zs.length
      · have d0 : decide ((1048576 : Int) < (n.size : Int)) = false := by simp; omega
        have d1 : decide ((1048576 : Int) < (zs.length : Int)) = false := by simp; omega
        go_enter Try.func20, Try.ntmps20
        go_wp2
        go_ret
        exact ⟨⟨_, rfl, fun h => by cases h⟩, rfl⟩
      · have d0 : decide ((1048576 : Int) < (n.size : Int)) = false := by simp; omega
        have d1 : decide ((1048576 : Int) < (zs.length : Int)) = false := by simp; omega
        have d2 : decide ((1048576 : Int) < (n.size : Int) + (zs.length : Int)) = false := by simp; omega
        go_enter Try.func20, Try.ntmps20
        go_wp2
        clear d0 d1 d2
        go_loop [5, 6] (fun z i => ∃ k q : Nat, k ≤ zs.length ∧ q ≤ 1048576 ∧ z = .int .i64 q ∧ i = .int .i64 k ∧ ∀ j, j < k → (zs.getD j ⟨#[]⟩).size ≤ 1048576) (fun _ i => zs.length - (intOf i).toNat)
        case atStart => exact ⟨0, n.size + zs.length, Nat.zero_le _, by omega, by go_num, rfl, fun j hj => by omega⟩
        case round =>
          obtain ⟨k, q, hk, hq, rfl, rfl, hsm⟩ := hrel
          have HSM := hid hsm
          clear hsm
          by_cases hlt : k < zs.length
          · obtain ⟨b, off, z, rfl, h1, hzz, hsz⟩ := HZ.out.get hlt
            have HZZ := hid hzz
            clear hzz
            unfold maxLen at hsz
            by_cases h3 : 1048576 < z.size
            · go_wp2
              go_ret
              exact ⟨⟨_, rfl, fun h => by cases h⟩, rfl⟩
            · by_cases h4 : 1048576 < q + z.size
              · go_wp2
                go_ret
                exact ⟨⟨_, rfl, fun h => by cases h⟩, rfl⟩
              · go_wp2
                go_round
                case rel => exact ⟨k + 1, q + z.size, by omega, by omega, by go_num, by go_num, small_snoc HSM.out HZZ.out (by omega)⟩
                case measure => simp [intOf]; omega
          · obtain rfl : k = zs.length := by omega
            go_wp2
            go_ret
            exact ⟨⟨_, rfl, fun _ => HSM.out⟩, rfl⟩

end Go.Proofs.Qxb6601878a
