import Derived.Test.Qxb6614051aTime
import Derived.Deep.RegionHeld3
import Derived.BigRegion
import Derived.Deep.OwnRows
import Derived.Laws.EntriesVeiled
namespace Go.Proofs.Qxb6614051a
open Go.RowKit
set_option linter.unusedVariables false

theorem lt_of_cell {w : World} {b o : Nat} {v : Value} (h : w.cell? ⟨b, o, none⟩ = some v) : b < w.heap.size := by
  by_cases hb : b < w.heap.size
  · exact hb
  · have e : w.heap[b]? = none := Array.getElem?_eq_none (by omega)
    simp [World.cell?, e] at h

set_option maxHeartbeats 400000 in
theorem due_any (b : Nat) (c6 c7 : Int) (w : World) (h6 : w.cell? ⟨b, 6, none⟩ = some (.int .u64 c6)) (h7 : w.cell? ⟨b, 7, none⟩ = some (.int .i64 c7)) (h8 : w.cell? ⟨b, 8, none⟩ = some (.pointer none)) :
    Calls Try.prog 10 #[.pointer (some ⟨b, 0, none⟩)] w fun e w' => e = .returned (.agg #[.int .u64 c6, .int .i64 c7, .pointer none]) ∧ Below w.heap.size w w' := by
  have hb : b < w.heap.size := lt_of_cell h6
  have ha : ∀ (x : Obj) (o : Nat), (w.alloc x).cell? ⟨b, o, none⟩ = w.cell? ⟨b, o, none⟩ := fun x o => World.cell?_alloc_past _ _ _ hb
  go_enter Try.func10, Try.ntmps10
  go_wp2
  exact bodyPost_ret (v := .agg #[.int .u64 c6, .int .i64 c7, .pointer none]) (by simp [results, Try.results10, go_sem]) rfl ⟨rfl, (Below.refl _ _).alloc (Nat.le_refl _) _⟩

set_option maxHeartbeats 400000 in
theorem index_any (b : Nat) (w : World) :
    Calls Try.prog 11 #[.pointer (some ⟨b, 0, none⟩)] w fun e w' => e = .returned (.pointer (some ⟨b, 17, none⟩)) ∧ w' = w := by
  go_enter Try.func11, Try.ntmps11
  go_wp2
  go_ret
  exact ⟨rfl, rfl⟩

theorem keepB {w w1 w2 : World} (h : Below w.heap.size w w1) (hb : Below w1.heap.size w1 w2) : Below w.heap.size w w2 := h.trans (hb.mono h.size)
theorem keepC {w1 w2 : World} {b o : Nat} {v : Value} (hb : Below w1.heap.size w1 w2) (h : w1.cell? ⟨b, o, none⟩ = some v) : w2.cell? ⟨b, o, none⟩ = some v := (hb.cell (lt_of_cell h)).trans h

set_option maxHeartbeats 2000000 in
theorem less_core (qb sb n i j e1 e2 : Nat) (d1 d2 : Int) (w : World) (hn : n ≤ 1048576) (hi : i < n) (hj : j < n)
    (q0 : w.cell? ⟨qb, 0, none⟩ = some (.slice (some ⟨sb, 0, none⟩) n n)) (q1 : w.cell? ⟨qb, 1, none⟩ = some (.func (Fn.func 10) #[] #[]))
    (si : w.cell? ⟨sb, i, none⟩ = some (.pointer (some ⟨e1, 0, none⟩))) (sj : w.cell? ⟨sb, j, none⟩ = some (.pointer (some ⟨e2, 0, none⟩)))
    (a6 : w.cell? ⟨e1, 6, none⟩ = some (.int .u64 (d1 % 1000000000))) (a7 : w.cell? ⟨e1, 7, none⟩ = some (.int .i64 (d1 / 1000000000))) (a8 : w.cell? ⟨e1, 8, none⟩ = some (.pointer none))
    (b6 : w.cell? ⟨e2, 6, none⟩ = some (.int .u64 (d2 % 1000000000))) (b7 : w.cell? ⟨e2, 7, none⟩ = some (.int .i64 (d2 / 1000000000))) (b8 : w.cell? ⟨e2, 8, none⟩ = some (.pointer none)) :
    Calls Try.prog 6 #[.pointer (some ⟨qb, 0, none⟩), .int .i64 i, .int .i64 j] w fun e w' => e = .returned (.bool (decide (d1 < d2))) ∧ Below w.heap.size w w' := by
  have ib : (i : Int) < (n : Int) := by omega
  have jb : (j : Int) < (n : Int) := by omega
  have i0 : (0 : Int) ≤ (i : Int) := by omega
  have j0 : (0 : Int) ≤ (j : Int) := by omega
  have hB := Below.refl w.heap.size w
  go_enter Try.func6, Try.ntmps6
  go_wp2_with fail
  go_region_held3 (fun w' => Below w.heap.size w w' ∧ w'.cell? ⟨qb, 0, none⟩ = some (.slice (some ⟨sb, 0, none⟩) n n) ∧ w'.cell? ⟨qb, 1, none⟩ = some (.func (Fn.func 10) #[] #[]) ∧
      w'.cell? ⟨sb, i, none⟩ = some (.pointer (some ⟨e1, 0, none⟩)) ∧ w'.cell? ⟨sb, j, none⟩ = some (.pointer (some ⟨e2, 0, none⟩)) ∧
      w'.cell? ⟨e1, 6, none⟩ = some (.int .u64 (d1 % 1000000000)) ∧ w'.cell? ⟨e1, 7, none⟩ = some (.int .i64 (d1 / 1000000000)) ∧ w'.cell? ⟨e1, 8, none⟩ = some (.pointer none) ∧
      w'.cell? ⟨e2, 6, none⟩ = some (.int .u64 (d2 % 1000000000)) ∧ w'.cell? ⟨e2, 7, none⟩ = some (.int .i64 (d2 / 1000000000)) ∧ w'.cell? ⟨e2, 8, none⟩ = some (.pointer none))
    (first | exact ⟨hB.drew, q0, q1, si, sj, a6, a7, a8, b6, b7, b8⟩ | (go_split_ands; exact ⟨keepB (by assumption) hlast, keepC hlast (by assumption), keepC hlast (by assumption), keepC hlast (by assumption), keepC hlast (by assumption), keepC hlast (by assumption), keepC hlast (by assumption), keepC hlast (by assumption), keepC hlast (by assumption), keepC hlast (by assumption), keepC hlast (by assumption)⟩))
    (first
      | (go_at_call_of 10 (Value.pointer (some ⟨e1, 0, none⟩)); go_split_ands; refine (due_any e1 _ _ _ (by assumption) (by assumption) (by assumption)).mono ?_; rintro e w' ⟨rfl, hlast⟩)
      | (go_at_call_of 10 (Value.pointer (some ⟨e2, 0, none⟩)); go_split_ands; refine (due_any e2 _ _ _ (by assumption) (by assumption) (by assumption)).mono ?_; rintro e w' ⟨rfl, hlast⟩)
      | (go_at_call 13; refine (before_any d1 d2 _).mono ?_; rintro e w' ⟨rfl, hlast⟩))
  go_split_ands
  go_wp2
  go_ret
  exact ⟨rfl, by assumption⟩
end Go.Proofs.Qxb6614051a
