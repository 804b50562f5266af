/- FnNewNodeScript with no step. -/
import Derived.Test.Qxb6601822aEnd
import Derived.Deep.CutBlock
namespace Go.Proofs.Qxb6601822a
open Go.RowKit Go.Maps

set_option maxRecDepth 100000 in
set_option maxHeartbeats 1000000 in
theorem bytes17_empty (a : Option Addr) (cap : Nat) (c : Int) (w : World) :
    Calls Try.prog 17 #[.int .i64 c, .slice a 0 cap] w fun e w' => e = .returned (.bool true) ∧ w = w' := by
  go_enter Try.func17, Try.ntmps17
  go_wp2
  refine wp_loop_rounds 1 ?_
  rw [rounds_succ]
  go_wp2
  go_ret
  exact ⟨rfl, rfl⟩

theorem reader_row (w : World) (c : Int) (o : Obj) : ∃ f, ((w.alloc (.cells #[.string ⟨#[]⟩, .int .i64 0, .int .i64 1, .int .i64 0, .int .i64 0, .int .i64 0, .int .i64 c, .slice none 0 0, .slice none 0 0, .slice none 0 0, .map none] 49)).alloc o).rowIs w.heap.size 49 11 f ∧ f 10 = .map none := by
  have hr := World.rowIs_alloc w #[.string ⟨#[]⟩, .int .i64 0, .int .i64 1, .int .i64 0, .int .i64 0, .int .i64 0, .int .i64 c, .slice none 0 0, .slice none 0 0, .slice none 0 0, .map none] 49
    (fun i => (#[Value.string ⟨#[]⟩, .int .i64 0, .int .i64 1, .int .i64 0, .int .i64 0, .int .i64 0, .int .i64 c, .slice none 0 0, .slice none 0 0, .slice none 0 0, .map none] : Array Value)[i]?.getD (.bool false)) (fun i hi => by rw [Array.getElem?_eq_getElem hi]; rfl)
  exact ⟨_, hr.alloc o, rfl⟩

theorem make36_0 (w : World) : (Instr.makeSlice 36 (.int .i64 0) (.int .i64 0)).run Try.prog w = .ok (.slice (some ⟨w.heap.size, 0, none⟩) 0 0) (w.alloc (.cells (madeCells #[.pointer none] 0) 38)) := run_make_row' (P := Try.prog) 36 38 (.pointer none) 8 Try.underlying36 info38 rfl .i64 .i64 0 (by omega) (by omega) w
theorem make32_0 (w : World) : (Instr.makeSlice 32 (.int .i64 0) (.int .i64 0)).run Try.prog w = .ok (.slice (some ⟨w.heap.size, 0, none⟩) 0 0) (w.alloc (.cells (madeCells #[.int .u8 0, .string ⟨#[]⟩, .int .i64 0, .int .i64 0] 0) 35)) := make32 w 0 (by omega)

set_option maxRecDepth 100000 in
set_option maxHeartbeats 2000000 in
theorem script_nil (c : Int) (w : World) :
    Calls Try.prog 7 #[.int .i64 c, .slice none 0 0] w fun e w' => e = .returned (.bool true) ∧ Below w.heap.size w w' := by
  go_enter Try.func7, Try.ntmps7
  go_upto_block 0 with (go_at_call 17; refine (bytes17_empty _ _ _ _).mono ?_; rintro e w' ⟨rfl, rfl⟩)
  go_wp2
  refine wp_loop_rounds 1 ?_
  rw [rounds_succ]
  by_cases hc0 : c < 0
  · go_wp2
    go_ret
    exact ⟨rfl, Below.refl _ _⟩
  by_cases hc1 : 65536 < c
  · go_wp2
    go_ret
    exact ⟨rfl, Below.refl _ _⟩
  have q1 := fun (w : World) (a : Option Addr) (n c n' c' : Nat) => run_neq_slice_nil_any (P := Try.prog) w 32 35 a n c n' c' Try.underlying32
  have hmk := make36_0
  obtain ⟨f, hf, h10⟩ := reader_row w c (.cells (madeCells #[.pointer none] 0) 38)
  have HF := hid hf
  have H10 := hid h10
  clear hf h10
  go_wp2_with (go_at_call 10; refine (newReader _ _).mono ?_; rintro e w' ⟨rfl, rfl⟩)
  clear hmk q1
  refine wp_loop_rounds 1 ?_
  rw [rounds_succ]
  go_wp2
  refine wp_loop_rounds 1 ?_
  rw [rounds_succ]
  go_wp2
  refine wp_loop_rounds 1 ?_
  rw [rounds_succ]
  go_wp2_with fail
  refine (anchorCount_nil w.heap.size f _ HF.out H10.out).mono ?_
  rintro e w' ⟨rfl, rfl⟩
  go_wp2_with fail
  refine (anchorsNil w.heap.size f none _ HF.out H10.out).mono ?_
  rintro e w' ⟨rfl, rfl⟩
  go_wp2
  go_ret
  exact ⟨rfl, ((Below.refl _ _).alloc (Nat.le_refl _) _).alloc (by simp) _⟩

set_option maxRecDepth 100000 in
set_option maxHeartbeats 2000000 in
theorem script_zero (a : Addr) (cap : Nat) (c : Int) (w : World) :
    Calls Try.prog 7 #[.int .i64 c, .slice (some a) 0 cap] w fun e w' => e = .returned (.bool true) ∧ Below w.heap.size w w' := by
  go_enter Try.func7, Try.ntmps7
  go_upto_block 0 with (go_at_call 17; refine (bytes17_empty _ _ _ _).mono ?_; rintro e w' ⟨rfl, rfl⟩)
  go_wp2
  refine wp_loop_rounds 1 ?_
  rw [rounds_succ]
  by_cases hc0 : c < 0
  · go_wp2
    go_ret
    exact ⟨rfl, Below.refl _ _⟩
  by_cases hc1 : 65536 < c
  · go_wp2
    go_ret
    exact ⟨rfl, Below.refl _ _⟩
  have q1 := fun (w : World) (a : Option Addr) (n c n' c' : Nat) => run_neq_slice_nil_any (P := Try.prog) w 32 35 a n c n' c' Try.underlying32
  have hmk := make36_0
  have hmk2 := make32_0
  go_wp2
  refine wp_loop_rounds 1 ?_
  rw [rounds_succ]
  obtain ⟨o1, ho1⟩ : ∃ o1 : Obj, o1 = .cells (madeCells #[.int .u8 0, .string ⟨#[]⟩, .int .i64 0, .int .i64 0] 0) 35 := ⟨_, rfl⟩
  rw [← ho1]
  clear ho1 hmk2
  obtain ⟨f, hf, h10⟩ := reader_row (w.alloc o1) c (.cells (madeCells #[.pointer none] 0) 38)
  rw [show (w.alloc o1).heap.size = w.heap.size + 1 by simp] at hf
  have HF := hid hf
  have H10 := hid h10
  clear hf h10
  go_wp2_with (go_at_call 10; refine (newReader _ _).mono ?_; rintro e w' ⟨rfl, rfl⟩)
  clear hmk q1
  refine wp_loop_rounds 1 ?_
  rw [rounds_succ]
  go_wp2
  refine wp_loop_rounds 1 ?_
  rw [rounds_succ]
  go_wp2
  refine wp_loop_rounds 1 ?_
  rw [rounds_succ]
  go_wp2_with fail
  refine (anchorCount_nil (w.heap.size + 1) f _ HF.out H10.out).mono ?_
  rintro e w' ⟨rfl, rfl⟩
  go_wp2_with fail
  refine (anchorsNil (w.heap.size + 1) f none _ HF.out H10.out).mono ?_
  rintro e w' ⟨rfl, rfl⟩
  go_wp2
  go_ret
  exact ⟨rfl, (((Below.refl _ _).alloc (Nat.le_refl _) _).alloc (by simp) _).alloc (by simp; omega) _⟩

end Go.Proofs.Qxb6601822a
