import Derived.Test.Qxb6614051aQueue
namespace Go.Proofs.Qxb6614051a
open Go.RowKit
set_option linter.unusedVariables false
set_option linter.unusedSimpArgs false

set_option maxHeartbeats 2000000 in
theorem swap_core (qb sb n i j e1 e2 : Nat) (c1 c2 : Value) (w : World) (hi : i < n) (hj : j < n) (hij : ¬ i = j) (hji : ¬ j = i)
    (q0 : w.cell? ⟨qb, 0, none⟩ = some (.slice (some ⟨sb, 0, none⟩) n n)) (q2 : w.cell? ⟨qb, 2, none⟩ = some (.func (Fn.func 11) #[] #[]))
    (si : w.cell? ⟨sb, i, none⟩ = some (.pointer (some ⟨e1, 0, none⟩))) (sj : w.cell? ⟨sb, j, none⟩ = some (.pointer (some ⟨e2, 0, none⟩)))
    (fi : w.frozen? ⟨sb, i, none⟩ = false) (fj : w.frozen? ⟨sb, j, none⟩ = false)
    (a17 : w.cell? ⟨e1, 17, none⟩ = some c1) (b17 : w.cell? ⟨e2, 17, none⟩ = some c2) (f1 : w.frozen? ⟨e1, 17, none⟩ = false) (f2 : w.frozen? ⟨e2, 17, none⟩ = false)
    (n1 : ¬ sb = e1) (n2 : ¬ sb = e2) (n3 : ¬ e1 = e2) (n4 : ¬ sb = qb) (n5 : ¬ e1 = qb) (n6 : ¬ e2 = qb) :
    Calls Try.prog 7 #[.pointer (some ⟨qb, 0, none⟩), .int .i64 i, .int .i64 j] w fun e w' => e = .returned (.tuple #[]) ∧
      w' = ((((w.setCell ⟨sb, i, none⟩ (.pointer (some ⟨e2, 0, none⟩))).setCell ⟨sb, j, none⟩ (.pointer (some ⟨e1, 0, none⟩))).setCell ⟨e2, 17, none⟩ (.int .i64 i)).setCell ⟨e1, 17, none⟩ (.int .i64 j)).drew.drew := by
  have ib : (i : Int) < (n : Int) := by omega
  have jb : (j : Int) < (n : Int) := by omega
  have i0 : (0 : Int) ≤ (i : Int) := by omega
  have j0 : (0 : Int) ≤ (j : Int) := by omega
  go_enter Try.func7, Try.ntmps7
  go_wp2_with fail
  go_region
  go_wp2_with fail
  obtain ⟨W1, hW1⟩ : ∃ W1, W1 = (w.setCell ⟨sb, i, none⟩ (.pointer (some ⟨e2, 0, none⟩))).setCell ⟨sb, j, none⟩ (.pointer (some ⟨e1, 0, none⟩)) := ⟨_, rfl⟩
  have k0 : W1.cell? ⟨qb, 0, none⟩ = some (.slice (some ⟨sb, 0, none⟩) n n) := by
    rw [hW1, World.cell?_setCell_other _ _ _ _ (by simp [n4]), World.cell?_setCell_other _ _ _ _ (by simp [n4])]; exact q0
  have k2 : W1.cell? ⟨qb, 2, none⟩ = some (.func (Fn.func 11) #[] #[]) := by
    rw [hW1, World.cell?_setCell_other _ _ _ _ (by simp [n4]), World.cell?_setCell_other _ _ _ _ (by simp [n4])]; exact q2
  have ki : W1.cell? ⟨sb, i, none⟩ = some (.pointer (some ⟨e2, 0, none⟩)) := by
    rw [hW1, World.cell?_setCell_other _ _ _ _ (by simp [hji])]; exact World.cell?_setCell_same _ _ _ si
  have kj : W1.cell? ⟨sb, j, none⟩ = some (.pointer (some ⟨e1, 0, none⟩)) := by
    rw [hW1]; exact World.cell?_setCell_same _ _ _ (by rw [World.cell?_setCell_other _ _ _ _ (by simp [hij])]; exact sj)
  have m1 : W1.cell? ⟨e1, 17, none⟩ = some c1 := by
    rw [hW1, World.cell?_setCell_other _ _ _ _ (by simp [n1]), World.cell?_setCell_other _ _ _ _ (by simp [n1])]; exact a17
  have m2 : W1.cell? ⟨e2, 17, none⟩ = some c2 := by
    rw [hW1, World.cell?_setCell_other _ _ _ _ (by simp [n2]), World.cell?_setCell_other _ _ _ _ (by simp [n2])]; exact b17
  have z1 : W1.frozen? ⟨e1, 17, none⟩ = false := by rw [hW1]; simpa using f1
  have z2 : W1.frozen? ⟨e2, 17, none⟩ = false := by rw [hW1]; simpa using f2
  have n3' : ¬ e2 = e1 := fun h => n3 h.symm
  have n1' : ¬ e1 = sb := fun h => n1 h.symm
  have n2' : ¬ e2 = sb := fun h => n2 h.symm
  rw [← hW1]
  have HW : Hid (W1 = (w.setCell ⟨sb, i, none⟩ (.pointer (some ⟨e2, 0, none⟩))).setCell ⟨sb, j, none⟩ (.pointer (some ⟨e1, 0, none⟩))) := hW1
  clear hW1 q0 q2 si sj fi fj a17 b17 f1 f2
  go_region_held3 (fun w' => w'.cell? ⟨qb, 0, none⟩ = some (.slice (some ⟨sb, 0, none⟩) n n) ∧ w'.cell? ⟨qb, 2, none⟩ = some (.func (Fn.func 11) #[] #[]) ∧
      w'.cell? ⟨sb, i, none⟩ = some (.pointer (some ⟨e2, 0, none⟩)) ∧ w'.cell? ⟨sb, j, none⟩ = some (.pointer (some ⟨e1, 0, none⟩)))
    (go_keep)
    (first
      | (go_at_call_of 11 (Value.pointer (some ⟨e1, 0, none⟩)); refine (index_any e1 _).mono ?_; rintro e w' ⟨rfl, rfl⟩)
      | (go_at_call_of 11 (Value.pointer (some ⟨e2, 0, none⟩)); refine (index_any e2 _).mono ?_; rintro e w' ⟨rfl, rfl⟩))
  go_end0
  exact ⟨rfl, by rw [HW.out]⟩
end Go.Proofs.Qxb6614051a
