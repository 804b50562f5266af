/- The walks of the callees: zzBytes, zzCopy, skipSpace, zzIsSpace, kindOf, zzIsKindName. -/
import Derived.Test.Qxb6601855aRows
import Derived.WalkKit
import Derived.WalkSpells
import Derived.WalkLawsBesides
import Derived.Lib.SliceRun
import Derived.Deep.OwnRows
namespace Go.Proofs.Qxb6601855a
open Go.RowKit

theorem info5 : (Try.prog.info? 5).map (fun i => (i.zero, i.size, i.bytes)) = some (some (.int .u8 0), 1, 1) := by kernel_rfl

set_option maxHeartbeats 400000 in
theorem bytes6 (a : Option Addr) (len cap : Nat) (i : Int) (w : World) (h : len ≤ 1048576) :
    Calls Try.prog 6 #[.slice a len cap, .int .i64 i] w fun e w' => e = .returned (.bool true) ∧ w' = w := by
  go_enter Try.func6, Try.ntmps6
  go_wp2
  go_ret
  exact ⟨rfl, rfl⟩

set_option maxHeartbeats 400000 in
theorem bytes6_no (a : Option Addr) (len cap : Nat) (i : Int) (w : World) (h : 1048576 < len) :
    Calls Try.prog 6 #[.slice a len cap, .int .i64 i] w fun e w' => e = .returned (.bool false) ∧ w' = w := by
  go_enter Try.func6, Try.ntmps6
  go_wp2
  go_ret
  exact ⟨rfl, rfl⟩

set_option maxHeartbeats 400000 in
theorem bytes11 (a : Option Addr) (len cap : Nat) (w : World) (h : len ≤ 1048576) :
    Calls Try.prog 11 #[.slice a len cap] w fun e w' => e = .returned (.bool true) ∧ w' = w := by
  go_enter Try.func11, Try.ntmps11
  go_wp2
  go_ret
  exact ⟨rfl, rfl⟩

set_option maxHeartbeats 400000 in
theorem bytes11_no (a : Option Addr) (len cap : Nat) (w : World) (h : 1048576 < len) :
    Calls Try.prog 11 #[.slice a len cap] w fun e w' => e = .returned (.bool false) ∧ w' = w := by
  go_enter Try.func11, Try.ntmps11
  go_wp2
  go_ret
  exact ⟨rfl, rfl⟩

/-- RFC 8259 whitespace, as a number. -/
def isSp (c : Int) : Bool := c == 32 || c == 9 || c == 13 || c == 10

theorem ret_bool {a b : Bool} (h : a = b) : Ending.returned (.bool a) = .returned (.bool b) := by rw [h]

set_option maxHeartbeats 400000 in
theorem isSpace_any (c : Int) (w : World) :
    Calls Try.prog 9 #[.int .u8 c] w fun e w' => e = .returned (.bool (isSp c)) ∧ w' = w := by
  go_enter Try.func9, Try.ntmps9
  go_wp2
  all_goals
    go_ret
    exact ⟨ret_bool (by simp [isSp, *]), rfl⟩

/-! ### zzCopy -/

set_option maxHeartbeats 400000 in
theorem copy_nil (w : World) :
    Calls Try.prog 7 #[.slice none 0 0] w fun e w' => e = .returned (.slice none 0 0) ∧ w' = w := by
  have q := fun (w : World) (a : Option Addr) (n c n' c' : Nat) => Lib.run_eql_slice_nil (P := Try.prog) w 22 5 a n c n' c' Try.underlying22
  go_enter Try.func7, Try.ntmps7
  go_wp2
  go_ret
  exact ⟨rfl, rfl⟩

set_option maxHeartbeats 400000 in
theorem copy_empty (a : Addr) (cap : Nat) (w : World) (f : Nat → Value) :
    Calls Try.prog 7 #[.slice (some a) 0 cap] w fun e w' => e = .returned (.slice (some ⟨w.heap.size, 0, none⟩) 0 0) ∧ w'.rowIs w.heap.size 5 0 f ∧ Below w.heap.size w w' := by
  have q := fun (w : World) (a : Option Addr) (n c n' c' : Nat) => Lib.run_eql_slice_nil (P := Try.prog) w 22 5 a n c n' c' Try.underlying22
  have hmk : ∀ w, (Instr.makeSlice 22 (.int .i64 0) (.int .i64 0)).run Try.prog w = .ok (.slice (some ⟨w.heap.size, 0, none⟩) 0 0) (w.alloc (.cells (madeCells #[.int .u8 0] 0) 5)) :=
    run_make_row' (P := Try.prog) 22 5 (.int .u8 0) 1 Try.underlying22 info5 rfl .i64 .i64 0 (by omega) (by omega)
  go_enter Try.func7, Try.ntmps7
  go_wp2
  refine wp_loop_rounds 1 ?_
  rw [rounds_succ]
  go_wp2
  go_ret
  exact ⟨rfl, (World.rowIs_made w (.int .u8 0) 0 5).congr (fun i hi => absurd hi (Nat.not_lt_zero _)), (Below.refl _ _).alloc (Nat.le_refl _) _⟩

theorem copy_row {zs : List Int} {k len B : Nat} {w : World} (h : w.rowIs B 5 len (fun j => .int .u8 (if j < k then zs.getD j 0 else 0))) :
    (w.setCell ⟨B, k, none⟩ (.int .u8 (zs.getD k 0))).rowIs B 5 len (fun j => .int .u8 (if j < k + 1 then zs.getD j 0 else 0)) := by
  refine (h.set k _).congr fun i _ => ?_
  by_cases e : i = k
  · subst e; simp
  · by_cases l : i < k
    · simp [e, l, Nat.lt_succ_of_lt l]
    · simp [e, l, show ¬ i < k + 1 by omega]

set_option maxHeartbeats 400000 in
theorem copy_some (b off len cap : Nat) (zs : List Int) (w : World) (hlen : len ≤ 1048576)
    (hc : ∀ j, j < len → w.cell? ⟨b, off + j, none⟩ = some (.int .u8 (zs.getD j 0))) :
    Calls Try.prog 7 #[.slice (some ⟨b, off, none⟩) len cap] w fun e w' => e = .returned (.slice (some ⟨w.heap.size, 0, none⟩) len len) ∧ w'.rowIs w.heap.size 5 len (fun i => .int .u8 (zs.getD i 0)) ∧ Below w.heap.size w w' := by
  have q := fun (w : World) (a : Option Addr) (n c n' c' : Nat) => Lib.run_eql_slice_nil (P := Try.prog) w 22 5 a n c n' c' Try.underlying22
  have hmk := run_make_row' (P := Try.prog) 22 5 (.int .u8 0) 1 Try.underlying22 info5 rfl .i64 .i64 len (by omega) (by omega)
  have HC : Hid (∀ j, j < len → w.cell? ⟨b, off + j, none⟩ = some (.int .u8 (zs.getD j 0))) := hc
  clear hc
  go_enter Try.func7, Try.ntmps7
  go_wp2
  clear hmk q
  go_loopw [4] (fun i wr => ∃ k : Nat, k ≤ len ∧ i = .int .i64 k ∧ wr.rowIs w.heap.size 5 len (fun j => .int .u8 (if j < k then zs.getD j 0 else 0)) ∧ Below w.heap.size w wr)
    (fun i _ => len - (intOf i).toNat)
  case atStart => exact ⟨0, Nat.zero_le _, rfl, (World.rowIs_made w (.int .u8 0) len 5).congr (fun i _ => by simp), (Below.refl _ _).alloc (Nat.le_refl _) _⟩
  case round =>
    obtain ⟨k, hk, rfl, hrow, hbel⟩ := hrel
    by_cases hlt : k < len
    · have hcb : b < w.heap.size := block_lt_of_cell (HC.out k hlt)
      have hcx : wr.cell? ⟨b, off + k, none⟩ = some (.int .u8 (zs.getD k 0)) := (hbel.cell hcb).trans (HC.out k hlt)
      have hcd := hrow.cell hlt
      have hfr := hrow.frozen k
      have HR : Hid _ := hrow
      have HB : Hid _ := hbel
      clear hrow hbel
      go_wp2
      go_roundw
      case rel => exact ⟨k + 1, by omega, by go_num, copy_row HR.out, HB.out.setCell (Nat.le_refl _) _⟩
      case measure => simp [intOf]; omega
    · go_wp2
      go_ret
      exact ⟨rfl, hrow.congr (fun i hi => by rw [if_pos (by omega)]), hbel⟩

/-! ### skipSpace -/

set_option maxHeartbeats 400000 in
theorem skip_past (a : Option Addr) (len cap : Nat) (i : Int) (w : World) (h : (len : Int) ≤ i) :
    Calls Try.prog 14 #[.slice a len cap, .int .i64 i] w fun e w' => e = .returned (.int .i64 i) ∧ w' = w := by
  go_enter Try.func14, Try.ntmps14
  go_wp2
  refine wp_loop_rounds 1 ?_
  rw [rounds_succ]
  go_wp2
  go_ret
  exact ⟨rfl, rfl⟩

/-- What skipSpace answers: the end of the run of spaces that starts at i. -/
def Lands (f : Nat → Int) (len i r : Nat) : Prop := i ≤ r ∧ r ≤ len ∧ (∀ j, i ≤ j → j < r → isSp (f j) = true) ∧ (r = len ∨ isSp (f r) = false)

theorem isSp_no {c : Int} (h1 : ¬ c = 32) (h2 : ¬ c = 9) (h3 : ¬ c = 13) (h4 : ¬ c = 10) : isSp c = false := by simp [isSp, h1, h2, h3, h4]

set_option maxHeartbeats 800000 in
theorem skip_any (b off len cap i : Nat) (f : Nat → Int) (w : World) (hlen : len ≤ 1048576) (hi : i ≤ len)
    (hc : ∀ j, j < len → w.cell? ⟨b, off + j, none⟩ = some (.int .u8 (f j))) :
    Calls Try.prog 14 #[.slice (some ⟨b, off, none⟩) len cap, .int .i64 i] w fun e w' => (∃ r : Nat, e = .returned (.int .i64 r) ∧ Lands f len i r) ∧ w' = w := by
  have HC : Hid (∀ j, j < len → w.cell? ⟨b, off + j, none⟩ = some (.int .u8 (f j))) := hc
  clear hc
  go_enter Try.func14, Try.ntmps14
  go_wp2
  go_loop [1] (fun s => ∃ k : Nat, i ≤ k ∧ k ≤ len ∧ s = .int .i64 k ∧ Hid (∀ j, i ≤ j → j < k → isSp (f j) = true)) (fun s => len - (intOf s).toNat)
  case atStart => exact ⟨i, Nat.le_refl _, hi, rfl, fun j h1 h2 => absurd h1 (by omega)⟩
  case round =>
    obtain ⟨k, hk1, hk2, rfl, hall⟩ := hrel
    by_cases hlt : k < len
    · have hcx := HC.out k hlt
      have hsp : ∀ c, f k = c → isSp c = true → Hid (∀ j, i ≤ j → j < k + 1 → isSp (f j) = true) := fun c e hc j h1 h2 => by
        by_cases ej : j = k
        · subst ej; rw [e]; exact hc
        · exact hall.out j h1 (by omega)
      have HS : Hid (∀ c, f k = c → isSp c = true → Hid (∀ j, i ≤ j → j < k + 1 → isSp (f j) = true)) := hsp
      clear hsp
      obtain ⟨c, ec⟩ : ∃ c, c = f k := ⟨_, rfl⟩
      rw [← ec] at hcx
      have EC : Hid (c = f k) := ec
      clear ec
      rcases (show (c = 32 ∨ c = 9 ∨ c = 13 ∨ c = 10) ∨ (¬ c = 32 ∧ ¬ c = 9 ∧ ¬ c = 13 ∧ ¬ c = 10) by omega) with h | h
      · have hs : isSp c = true := by rcases h with rfl | rfl | rfl | rfl <;> rfl
        have R := HS.out c EC.out.symm hs
        clear hs
        rcases h with rfl | rfl | rfl | rfl
        all_goals
          go_wp2
          go_round
          case rel => exact ⟨k + 1, by omega, by omega, by go_num, R⟩
          case measure => simp [intOf]; omega
      · obtain ⟨h1, h2, h3, h4⟩ := h
        go_wp2
        go_ret
        exact ⟨⟨k, rfl, hk1, hk2, hall.out, .inr (by rw [← EC.out]; exact isSp_no h1 h2 h3 h4)⟩, rfl⟩
    · go_wp2
      go_ret
      exact ⟨⟨k, rfl, hk1, hk2, hall.out, .inl (by omega)⟩, rfl⟩

set_option maxHeartbeats 400000 in
theorem zskip_past (a : Option Addr) (len cap : Nat) (i : Int) (w : World) (h : (len : Int) ≤ i) :
    Calls Try.prog 8 #[.slice a len cap, .int .i64 i] w fun e w' => e = .returned (.int .i64 i) ∧ w' = w := by
  go_enter Try.func8, Try.ntmps8
  go_wp2_with (go_at_call 14; refine (skip_past _ _ _ _ _ h).mono ?_; rintro e w' ⟨rfl, rfl⟩)
  go_ret
  exact ⟨rfl, rfl⟩

set_option maxHeartbeats 400000 in
theorem zskip_any (b off len cap i : Nat) (f : Nat → Int) (w : World) (hlen : len ≤ 1048576) (hi : i ≤ len)
    (hc : ∀ j, j < len → w.cell? ⟨b, off + j, none⟩ = some (.int .u8 (f j))) :
    Calls Try.prog 8 #[.slice (some ⟨b, off, none⟩) len cap, .int .i64 i] w fun e w' => (∃ r : Nat, e = .returned (.int .i64 r) ∧ Lands f len i r) ∧ w' = w := by
  have HC : Hid (∀ j, j < len → w.cell? ⟨b, off + j, none⟩ = some (.int .u8 (f j))) := hc
  clear hc
  go_enter Try.func8, Try.ntmps8
  go_wp2_with (go_at_call 14; refine (skip_any b off len cap i f _ hlen hi HC.out).mono ?_; rintro e w' ⟨⟨r, rfl, hr⟩, rfl⟩)
  go_ret
  exact ⟨⟨r, rfl, hr⟩, rfl⟩

/-! ### kindOf -/

def kindB (c : Int) : ByteArray :=
  if c == 34 then ⟨#[97, 32, 115, 116, 114, 105, 110, 103]⟩ else if c == 123 then ⟨#[97, 110, 32, 111, 98, 106, 101, 99, 116]⟩ else if c == 91 then ⟨#[97, 110, 32, 97, 114, 114, 97, 121]⟩
  else if c == 116 || c == 102 then ⟨#[97, 32, 98, 111, 111, 108, 101, 97, 110]⟩ else if c == 110 then ⟨#[110, 117, 108, 108]⟩ else ⟨#[97, 32, 110, 117, 109, 98, 101, 114]⟩

theorem ret_str {a b : ByteArray} (h : a = b) : Ending.returned (.string a) = .returned (.string b) := by rw [h]

set_option maxHeartbeats 400000 in
theorem kindOf_any (b off len cap : Nat) (c : Int) (w : World) (hlen : 0 < len) (hc : w.cell? ⟨b, off, none⟩ = some (.int .u8 c)) :
    Calls Try.prog 15 #[.slice (some ⟨b, off, none⟩) len cap] w fun e w' => e = .returned (.string (kindB c)) ∧ w' = w := by
  go_enter Try.func15, Try.ntmps15
  go_wp2
  all_goals
    go_ret
    exact ⟨ret_str (by unfold kindB; simp only [*]; rfl), rfl⟩

set_option maxHeartbeats 400000 in
theorem zkindOf_any (b off len cap : Nat) (c : Int) (w : World) (hlen : 0 < len) (hc : w.cell? ⟨b, off, none⟩ = some (.int .u8 c)) :
    Calls Try.prog 12 #[.slice (some ⟨b, off, none⟩) len cap] w fun e w' => e = .returned (.string (kindB c)) ∧ w' = w := by
  go_enter Try.func12, Try.ntmps12
  go_wp2_with (go_at_call 15; refine (kindOf_any b off len cap c _ hlen hc).mono ?_; rintro e w' ⟨rfl, rfl⟩)
  go_ret
  exact ⟨rfl, rfl⟩

theorem kindB_six (c : Int) : kindB c = ⟨#[97, 32, 115, 116, 114, 105, 110, 103]⟩ ∨ kindB c = ⟨#[97, 110, 32, 111, 98, 106, 101, 99, 116]⟩ ∨ kindB c = ⟨#[97, 110, 32, 97, 114, 114, 97, 121]⟩ ∨
    kindB c = ⟨#[97, 32, 98, 111, 111, 108, 101, 97, 110]⟩ ∨ kindB c = ⟨#[110, 117, 108, 108]⟩ ∨ kindB c = ⟨#[97, 32, 110, 117, 109, 98, 101, 114]⟩ := by
  unfold kindB
  split
  · exact .inl rfl
  split
  · exact .inr (.inl rfl)
  split
  · exact .inr (.inr (.inl rfl))
  split
  · exact .inr (.inr (.inr (.inl rfl)))
  split
  · exact .inr (.inr (.inr (.inr (.inl rfl))))
  · exact .inr (.inr (.inr (.inr (.inr rfl))))

set_option maxHeartbeats 400000 in
theorem isKind_any (c : Int) (w : World) :
    Calls Try.prog 13 #[.string (kindB c)] w fun e w' => e = .returned (.bool true) ∧ w' = w := by
  rcases kindB_six c with h | h | h | h | h | h <;> rw [h] <;> clear h
  all_goals
    go_enter Try.func13, Try.ntmps13
    go_wp2
    go_ret
    exact ⟨rfl, rfl⟩

end Go.Proofs.Qxb6601855a
