import Derived.Test.Qxb6614051aMain
namespace Go.Proofs.Qxb6614051a
open Go.RowKit
set_option linter.unusedVariables false
set_option linter.unusedSimpArgs false

set_option maxHeartbeats 2000000 in
theorem main_nil (w : World) :
    Calls Try.prog 3 #[.slice none 0 0] w fun e w' => e = .returned (.bool true) ∧ Below w.heap.size w w' := by
  go_enter Try.func3, Try.ntmps3
  go_wp2_with (go_at_call 4; go_in)
  refine (new_nil _).mono ?_
  rintro e w2 ⟨rfl, hb2⟩
  go_wp2_with fail
  refine wp_loop_rounds 1 ?_
  rw [rounds_succ]
  have hmk : ∀ w : World, (Instr.makeSlice 28 (.int .i64 0) (.int .i64 0)).run Try.prog w = .ok (.slice (some ⟨w.heap.size, 0, none⟩) 0 0) (w.alloc (.cells (madeCells #[.bool false] 0) 4)) :=
    fun w => run_make_row' (P := Try.prog) 28 4 (.bool false) 1 Try.underlying28 Try.info4 rfl .i64 .i64 0 (by omega) (by omega) w
  go_wp2_with fail
  clear hmk
  refine wp_loop_rounds 1 ?_
  rw [rounds_succ]
  go_wp2
  go_ret
  exact ⟨rfl, hb2.alloc hb2.size _⟩

set_option maxHeartbeats 2000000 in
theorem main_long (x : Addr) (n cap : Nat) (w : World) (hn : ¬ n ≤ 1024) (hm : n ≤ maxLen) :
    Calls Try.prog 3 #[.slice (some x) n cap] w fun e w' => e = .returned (.bool true) ∧ Below w.heap.size w w' := by
  unfold maxLen at hm
  go_enter Try.func3, Try.ntmps3
  go_wp2_with (go_at_call 4; go_in)
  all_goals (go_ret; exact ⟨rfl, Below.refl _ _⟩)
end Go.Proofs.Qxb6614051a
