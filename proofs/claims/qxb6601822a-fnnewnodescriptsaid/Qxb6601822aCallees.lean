/- ZZNewNode and zzBytes. -/
import Derived.Test.Qxb6601822aNew
namespace Go.Proofs.Qxb6601822a
open Go.RowKit Go.Maps

set_option maxHeartbeats 400000 in
theorem zzNewNode (R base n ch cnt : Nat) (D : DataW Value) (ln kd al : Int) (name : ByteArray) (a : Option Addr) (cap : Nat) (xs : List Value) (m : Option Nat) (w : World)
    (hR : R < base) (hb : base ≤ w.heap.size) (rd : Rd w R ln ch (.slice a n cap) m) (hown : w.ownsRow base 42 6 (.slice a n cap) n xs) (hm : MapOk w m cnt D) (hn : n ≤ 4096) (hch : ch ≤ 65536) (hcnt : cnt ≤ 4096) (hname : name.size ≤ maxLen) :
    Calls Try.prog 19 #[.pointer (some ⟨R, 0, none⟩), .int .u8 kd, .string name, .int .i64 al] w fun e w' => NewPost w R base ln ch (.slice a n cap) n m name kd al cnt D e w' := by
  have RD := hid rd
  have OWN := hid hown
  have HM := hid hm
  clear rd hown hm
  go_enter Try.func19, Try.ntmps19
  go_wp2_with fail
  refine (newNode R base n ch cnt D ln kd al name a cap xs m w hR hb RD.out OWN.out HM.out hn hch hcnt hname).mono ?_
  rintro e w' ⟨g, n', cap', m', rfl, hA⟩
  have HA := hid hA
  clear hA
  go_wp2
  go_ret
  exact ⟨g, n', cap', m', rfl, HA.out⟩

/-- A step's four cells lie at 'off + 4 * i'. -/
def StepsAt (w : World) (b off len : Nat) (K A L : Nat → Int) (N : Nat → ByteArray) : Prop := ∀ i, i < len →
  w.cell? ⟨b, off + i * 4, none⟩ = some (.int .u8 (K i)) ∧ w.cell? ⟨b, off + i * 4 + 1, none⟩ = some (.string (N i)) ∧ w.cell? ⟨b, off + i * 4 + 2, none⟩ = some (.int .i64 (A i)) ∧ w.cell? ⟨b, off + i * 4 + 3, none⟩ = some (.int .i64 (L i)) ∧ (N i).size ≤ maxLen

def IsB (e : Ending) : Prop := ∃ x : Bool, e = .returned (.bool x)

set_option maxHeartbeats 400000 in
theorem bytes17 (b off len cap : Nat) (c : Int) (K A L : Nat → Int) (N : Nat → ByteArray) (w : World) (hl : len ≤ maxLen) (hs : StepsAt w b off len K A L N) :
    Calls Try.prog 17 #[.int .i64 c, .slice (some ⟨b, off, none⟩) len cap] w fun e w' => IsB e ∧ w = w' := by
  unfold maxLen at hl
  have HS := hid hs
  clear hs
  by_cases hbig : 1048576 < len
  · go_enter Try.func17, Try.ntmps17
    go_wp2
    go_ret
    exact ⟨⟨_, rfl⟩, rfl⟩
  · have d1 : decide ((1048576 : Int) < (len : Int)) = false := by simp; omega
    go_enter Try.func17, Try.ntmps17
    go_wp2
    clear d1
    go_loop [5, 6] (fun z i => ∃ k q : Nat, k ≤ len ∧ q ≤ 1048576 ∧ z = .int .i64 q ∧ i = .int .i64 k) (fun _ i => len - (intOf i).toNat)
    case atStart => exact ⟨0, len, Nat.zero_le _, by omega, rfl, rfl⟩
    case round =>
      obtain ⟨k, q, hk, hq, rfl, rfl⟩ := hrel
      by_cases hlt : k < len
      · obtain ⟨_, h1, _, _, hsz⟩ := HS.out k hlt
        unfold maxLen at hsz
        by_cases h3 : 1048576 < (N k).size
        · go_wp2
          go_ret
          exact ⟨⟨_, rfl⟩, rfl⟩
        · by_cases h4 : 1048576 < q + (N k).size
          · go_wp2
            go_ret
            exact ⟨⟨_, rfl⟩, rfl⟩
          · go_wp2
            go_round
            case rel => exact ⟨k + 1, q + (N k).size, by omega, by omega, by go_num, by go_num⟩
            case measure => simp [intOf]; omega
      · go_wp2
        go_ret
        exact ⟨⟨_, rfl⟩, rfl⟩

end Go.Proofs.Qxb6601822a
