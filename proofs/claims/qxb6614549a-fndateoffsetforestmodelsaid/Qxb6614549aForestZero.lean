import Derived.Test.Qxb6614549aForestParts
namespace Go.Proofs.Qxb6614549a
open Go.RowKit

theorem cols_zero {w1 : World} {sb : Nat} (hl : sb < w1.heap.size) (hs : w1.rowIs sb 3 1 (fun _ => .int .i64 0)) (o : Obj) :
    Cols (w1.alloc o) w1.heap.size 0 (fun _ => 0) (fun _ => none) (fun _ => 0) sb sb 0 0 none sb (fun _ => 0) := by
  refine ⟨by omega, by omega, hl, hl, hl, fun j h => by omega, ?_, fun _ _ => Nat.le_refl _, fun k h => by omega, fun k p h => by omega, fun k h => by omega, fun k p h => by omega, fun k h => by omega⟩
  intro j hj
  obtain rfl : j = 0 := by omega
  exact (hs.alloc o).cell (by omega)

theorem number_zero (w w1 : World) (G sb tc : Nat) (ta : Option Addr) (hG : G = w1.heap.size) (hb : Below w.heap.size w w1) (hl : sb < w1.heap.size) (hs : w1.rowIs sb 3 1 (fun _ => .int .i64 0)) :
    Calls Try.prog 11 #[.pointer (some ⟨G, 0, none⟩)] (w1.alloc (.cells #[.slice none 0 0, .slice none 0 0, .slice ta 0 tc, .slice none 0 0, .slice (some ⟨sb, 0, none⟩) 1 1, .slice none 0 0, .slice none 0 0, .int .i64 0, .int .i64 0] 49))
      fun e w' => e = .returned (.tuple #[]) ∧ Below w.heap.size w w' := by
  subst hG
  refine (zzNumber_any (w1.alloc _) w1.heap.size 0 (fun _ => 0) (fun _ => none) (fun _ => 0) ta sb tc sb 1 0 0 none sb (fun _ => 0) _ _ (fun h => by omega) (Deep.blk_alloc_new _ _) (cols_zero hl hs _)).mono ?_
  rintro e w' ⟨he, ge, hcore⟩
  have hsz := hb.size
  exact ⟨he, (hb.alloc hsz _).trans (hcore.below.mono hsz)⟩

set_option maxRecDepth 100000 in
set_option maxHeartbeats 400000 in
/-- No commits, a nil slice of times. -/
theorem forest_none (a1 : Option Addr) (cap0 cap1 : Nat) (w : World) :
    Calls Try.prog 5 #[.slice none 0 cap0, .slice a1 0 cap1] w fun e w' => e = .returned (.bool true) ∧ Below w.heap.size w w' := by
  have hmk3 : ∀ w : World, (Instr.makeSlice 32 (.int .i64 1) (.int .i64 1)).run Try.prog w = .ok (.slice (some ⟨w.heap.size, 0, none⟩) 1 1) (w.alloc (.cells (madeCells #[.int .i64 0] 1) 3)) :=
    fun w => run_make_row' (P := Try.prog) 32 3 (.int .i64 0) 8 Try.underlying32 info3 rfl .i64 .i64 1 (by omega) (by omega) w
  have hnil := fun w0 => run_neq_slice_nil_any (P := Try.prog) w0 27 30 none 0 cap0 0 0 Try.underlying27
  go_enter Try.func5, Try.ntmps5
  go_wp2
  refine wp_loop_rounds 1 ?_
  rw [rounds_succ]
  go_wp2
  refine wp_loop_rounds 1 ?_
  rw [rounds_succ]
  go_wp2_with fail
  refine (zzNewGraph_any _ _ _ _ ⟨_, _, _, rfl⟩ ⟨_, _, _, rfl⟩ ⟨_, _, _, rfl⟩).mono ?_
  rintro e w2 ⟨rfl, rfl⟩
  have hN := hide (number_zero w (w.alloc (.cells (madeCells #[.int .i64 0] 1) 3)) (w.heap.size + 1) w.heap.size 0 none (by rw [Deep.nblk_alloc]) ((Below.refl _ _).alloc (Nat.le_refl _) _) (by rw [Deep.nblk_alloc]; omega) (World.rowIs_made w (.int .i64 0) 1 3))
  go_wp2_with fail
  refine (unhide hN).mono ?_
  rintro e w2 ⟨rfl, hb⟩
  go_wp2
  refine wp_loop_rounds 1 ?_
  rw [rounds_succ]
  go_wp2
  go_ret
  exact ⟨rfl, hb⟩

set_option maxRecDepth 100000 in
set_option maxHeartbeats 400000 in
/-- No commits, a slice of times that is not nil. -/
theorem forest_empty (x : Addr) (a1 : Option Addr) (cap0 cap1 : Nat) (w : World) :
    Calls Try.prog 5 #[.slice (some x) 0 cap0, .slice a1 0 cap1] w fun e w' => e = .returned (.bool true) ∧ Below w.heap.size w w' := by
  have hmk3 : ∀ w : World, (Instr.makeSlice 32 (.int .i64 1) (.int .i64 1)).run Try.prog w = .ok (.slice (some ⟨w.heap.size, 0, none⟩) 1 1) (w.alloc (.cells (madeCells #[.int .i64 0] 1) 3)) :=
    fun w => run_make_row' (P := Try.prog) 32 3 (.int .i64 0) 8 Try.underlying32 info3 rfl .i64 .i64 1 (by omega) (by omega) w
  have hmk1 : ∀ w : World, (Instr.makeSlice 27 (.int .i64 0) (.int .i64 0)).run Try.prog w = .ok (.slice (some ⟨w.heap.size, 0, none⟩) 0 0) (w.alloc (.cells (madeCells #[.int .u64 0] 0) 30)) :=
    fun w => run_make_row' (P := Try.prog) 27 30 (.int .u64 0) 8 Try.underlying27 info30 rfl .i64 .i64 0 (by omega) (by omega) w
  have hnil := fun w0 => run_neq_slice_nil_any (P := Try.prog) w0 27 30 (some x) 0 cap0 0 0 Try.underlying27
  go_enter Try.func5, Try.ntmps5
  go_wp2
  refine wp_loop_rounds 1 ?_
  rw [rounds_succ]
  have tok := hide trivial
  go_wp2_with (have _t := tok; refine wpList_copy_nothing rfl (.tmp 61) (.tmp 62) 27 27 rfl 30 Try.underlying27 (by kernel_rfl) (some ⟨w.heap.size, 0, none⟩) (some x) 0 0 0 cap0 rfl rfl rfl ?_; clear tok)
  refine wp_loop_rounds 1 ?_
  rw [rounds_succ]
  go_wp2_with fail
  refine (zzNewGraph_any _ _ _ _ ⟨_, _, _, rfl⟩ ⟨_, _, _, rfl⟩ ⟨_, _, _, rfl⟩).mono ?_
  rintro e w2 ⟨rfl, rfl⟩
  have z1 := Deep.nblk_alloc w (.cells (madeCells #[.int .u64 0] 0) 30)
  have hr := World.rowIs_made (w.alloc (.cells (madeCells #[.int .u64 0] 0) 30)) (.int .i64 0) 1 3
  rw [z1] at hr
  have hN := hide (number_zero w ((w.alloc (.cells (madeCells #[.int .u64 0] 0) 30)).alloc (.cells (madeCells #[.int .i64 0] 1) 3)) (w.heap.size + 1 + 1) (w.heap.size + 1) 0 (some ⟨w.heap.size, 0, none⟩) (by rw [Deep.nblk_alloc, z1]) (((Below.refl _ _).alloc (Nat.le_refl _) _).alloc (by omega) _) (by rw [Deep.nblk_alloc]; omega) hr)
  clear z1 hr
  go_wp2_with fail
  refine (unhide hN).mono ?_
  rintro e w2 ⟨rfl, hb⟩
  go_wp2
  refine wp_loop_rounds 1 ?_
  rw [rounds_succ]
  go_wp2
  go_ret
  exact ⟨rfl, hb⟩
end Go.Proofs.Qxb6614549a
