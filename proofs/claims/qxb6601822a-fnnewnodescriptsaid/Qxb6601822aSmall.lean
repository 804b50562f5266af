/- The small callees of FnNewNodeScript: ZZNewReader, ZZSetLine, ZZAnchor, ZZAnchorCount, ZZAnchorsNil. -/
import Derived.Test.Qxb6601822aRows
import Derived.WalkKit
import Derived.WalkSpells
import Derived.WalkLawsBesides
import Derived.Lib.SliceRun
import Derived.Deep.OwnRows
import Derived.Deep.AppendLies
import Derived.Maps.Own
import Derived.Maps.OwnOps
import Derived.Maps.OwnSet
import Derived.Maps.Views
import Derived.BigQuiet
import Derived.Deep.QuietTactic
namespace Go.Proofs.Qxb6601822a
open Go.RowKit Go.Maps

set_option maxHeartbeats 400000 in
theorem newReader (c : Int) (w : World) :
    Calls Try.prog 10 #[.string ⟨#[]⟩, .int .i64 0, .int .i64 1, .int .i64 0, .int .i64 0, .int .i64 0, .int .i64 c] w fun e w' =>
      e = .returned (.pointer (some ⟨w.heap.size, 0, none⟩)) ∧
      w.alloc (.cells #[.string ⟨#[]⟩, .int .i64 0, .int .i64 1, .int .i64 0, .int .i64 0, .int .i64 0, .int .i64 c, .slice none 0 0, .slice none 0 0, .slice none 0 0, .map none] 49) = w' := by
  go_enter Try.func10, Try.ntmps10
  go_wp2
  go_ret
  exact ⟨rfl, rfl⟩

set_option maxHeartbeats 400000 in
theorem setLine (R : Nat) (f : Nat → Value) (l : Int) (w : World) (hr : w.rowIs R 49 11 f) :
    Calls Try.prog 18 #[.pointer (some ⟨R, 0, none⟩), .int .i64 l] w fun e w' => e = .returned (.tuple #[]) ∧ w.setCell ⟨R, 2, none⟩ (.int .i64 l) = w' := by
  have h2 := hr.cell (i := 2) (by omega)
  have f2 := hr.frozen 2
  clear hr
  go_enter Try.func18, Try.ntmps18
  go_wp2
  go_end0
  exact ⟨rfl, rfl⟩

set_option maxHeartbeats 400000 in
theorem anchorsNil (R : Nat) (f : Nat → Value) (m : Option Nat) (w : World) (hr : w.rowIs R 49 11 f) (hm : f 10 = .map m) :
    Calls Try.prog 22 #[.pointer (some ⟨R, 0, none⟩)] w fun e w' => e = .returned (.bool m.isNone) ∧ w = w' := by
  have h2 := hr.cell (i := 10) (by omega)
  rw [hm] at h2
  clear hr hm
  have q := fun (w : World) (m : Option Nat) => run_eql_map_nil (P := Try.prog) w 47 9 38 m Try.underlying47
  go_enter Try.func22, Try.ntmps22
  go_wp2
  go_ret
  exact ⟨rfl, rfl⟩

/-- How an element of the anchors map (a pointer) reads: as itself, a token. -/
def ptrElem (v : Value) : Option (DataW Value × List MemPlace) := some (.held v, [])

theorem law : Keyed Try.prog 9 := string_keyed Try.underlying9

theorem zero38 (w : World) : (zeroValue 38).run Try.prog w = .ok (.pointer none) w := by kernel_rfl

set_option maxHeartbeats 400000 in
theorem anchorCount_nil (R : Nat) (f : Nat → Value) (w : World) (hr : w.rowIs R 49 11 f) (hm : f 10 = .map none) :
    Calls Try.prog 21 #[.pointer (some ⟨R, 0, none⟩)] w fun e w' => e = .returned (.int .i64 0) ∧ w = w' := by
  have h2 := hr.cell (i := 10) (by omega)
  rw [hm] at h2
  clear hr hm
  go_enter Try.func21, Try.ntmps21
  go_wp2
  go_ret
  exact ⟨rfl, rfl⟩

set_option maxHeartbeats 400000 in
theorem anchorCount (R M n : Nat) (f : Nat → Value) (D : DataW Value) (w : World) (hr : w.rowIs R 49 11 f) (hm : f 10 = .map (some M)) (hown : w.ownsMap Try.prog 9 ptrElem M n D) :
    Calls Try.prog 21 #[.pointer (some ⟨R, 0, none⟩)] w fun e w' => e = .returned (.int .i64 (Maps.size D)) ∧ w = w' := by
  have h2 := hr.cell (i := 10) (by omega)
  rw [hm] at h2
  clear hr hm
  go_enter Try.func21, Try.ntmps21
  go_wp2_with (at_len; refine wpList_len_own _ rfl _ 47 rfl 9 38 Try.underlying47 ptrElem M n D rfl hown ?_)
  go_ret
  exact ⟨rfl, rfl⟩

set_option maxHeartbeats 400000 in
theorem anchorAt (R M n : Nat) (f : Nat → Value) (D : DataW Value) (s : ByteArray) (w : World) (hs : s.size ≤ maxLen) (hr : w.rowIs R 49 11 f) (hm : f 10 = .map (some M)) (hown : w.ownsMap Try.prog 9 ptrElem M n D) :
    Calls Try.prog 20 #[.pointer (some ⟨R, 0, none⟩), .string s] w fun e w' => (∃ v, e = .returned v ∧ D.atKey (.string s.data.toList) (.held (.pointer none)) = .held v) ∧ w = w' := by
  have h2 := hr.cell (i := 10) (by omega)
  rw [hm] at h2
  obtain ⟨v, ps, hrun, hv⟩ := hown.lookup law Try.underlying47 (zero38 w) (show ptrElem (.pointer none) = some (.held (.pointer none), []) from rfl) (WideMaps.keyOf_string_mk Try.underlying9 hs)
  have hd : D.atKey (.string s.data.toList) (.held (.pointer none)) = .held v := by
    simp only [ptrElem, Option.some.injEq, Prod.mk.injEq] at hv
    exact hv.1.symm
  have HD : Hid _ := hd
  clear hr hm hown hv hd hs
  go_enter Try.func20, Try.ntmps20
  go_wp2
  go_ret
  exact ⟨⟨v, rfl, HD.out⟩, rfl⟩

end Go.Proofs.Qxb6601822a
