import Derived.Test.Qxb6613536aSearch
namespace Go.Proofs.Qxb6613536a
open Go.RowKit
set_option linter.unusedVariables false
set_option linter.unusedSimpArgs false

theorem lt_of_cell {w : World} {b o : Nat} {v : Value} (h : w.cell? ⟨b, o, none⟩ = some v) : b < w.heap.size := by
  by_cases hb : b < w.heap.size
  · exact hb
  · have e : w.heap[b]? = none := Array.getElem?_eq_none (by omega)
    simp [World.cell?, e] at h
theorem keepB {w w1 w2 : World} (h : Below w.heap.size w w1) (hb : Below w1.heap.size w1 w2) : Below w.heap.size w w2 := h.trans (hb.mono h.size)
theorem keepC {w1 w2 : World} {b o : Nat} {v : Value} (hb : Below w1.heap.size w1 w2) (h : w1.cell? ⟨b, o, none⟩ = some v) : w2.cell? ⟨b, o, none⟩ = some v := (hb.cell (lt_of_cell h)).trans h

/-- The listings' slice: nil and empty, or a row of ns numbers. -/
def Sts (w : World) (sv : Value) (ns : Nat) (st : Nat → Int) : Prop :=
  (sv = .slice none 0 0 ∧ ns = 0) ∨ ∃ S, sv = .slice (some ⟨S, 0, none⟩) ns ns ∧ ∀ k, k < ns → w.cell? ⟨S, k, none⟩ = some (.int .i64 (st k))

theorem Sts.below {w w' : World} {sv : Value} {ns : Nat} {st : Nat → Int} (h : Sts w sv ns st) (hb : Below w.heap.size w w') : Sts w' sv ns st := by
  rcases h with h | ⟨S, e, h⟩
  · exact Or.inl h
  · exact Or.inr ⟨S, e, fun k hk => keepC hb (h k hk)⟩

theorem three (w : World) (A B C : Array Value) (t1 t2 t3 : TypeId) (i : Nat) :
    (((w.alloc (.cells A t1)).alloc (.cells B t2)).alloc (.cells C t3)).cell? ⟨w.heap.size, i, none⟩ = A[i]? ∧
    (((w.alloc (.cells A t1)).alloc (.cells B t2)).alloc (.cells C t3)).cell? ⟨w.heap.size + 1, i, none⟩ = B[i]? ∧
    (((w.alloc (.cells A t1)).alloc (.cells B t2)).alloc (.cells C t3)).cell? ⟨w.heap.size + 1 + 1, i, none⟩ = C[i]? := by
  refine ⟨?_, ?_, ?_⟩
  · rw [World.cell?_alloc_past _ _ _ (by simp; omega), World.cell?_alloc_past _ _ _ (by simp), World.cell?_alloc_new]
  · rw [World.cell?_alloc_past _ _ _ (by simp), World.cell?_alloc_at _ _ _ _ (by simp)]
  · rw [World.cell?_alloc_at _ _ _ _ (by simp)]

set_option maxHeartbeats 400000 in
theorem first_any (px sv : Value) (ns : Nat) (st : Nat → Int) (to pos : Int) (w : World) (hns : ns ≤ 1024) (h0 : ∀ k, k < ns → 0 ≤ st k) (h1 : 0 ≤ to) (h2 : ∀ k, k < ns → st k + to ≤ 9223372036854775806) (hm : ∀ j k, j ≤ k → k < ns → st j ≤ st k)
    (hs : Sts w sv ns st) (hpx : px.oneCell' = true) :
    Calls Try.prog 18 #[.agg #[px, sv], .int .i64 to, .int .i64 pos] w fun e w' =>
      (∃ k : Nat, e = .returned (.int .i64 k) ∧ k ≤ ns ∧ (∀ j, j < k → st j + to ≤ pos) ∧ (k < ns → pos < st k + to)) ∧ Below w.heap.size w w' := by
  rcases hs with ⟨rfl, rfl⟩ | ⟨S, rfl, cs⟩
  · go_enter Try.func18, Try.ntmps18
    go_wp2_with fail
    refine (search_zero _ _).mono ?_
    rintro e w' ⟨rfl, rfl⟩
    go_wp2_with fail
    go_ret
    exact ⟨⟨0, rfl, Nat.le_refl _, fun j hj => absurd hj (Nat.not_lt_zero _), fun h => absurd h (Nat.lt_irrefl _)⟩, (((Below.refl _ _).alloc (Nat.le_refl _) _).alloc (by simp) _).alloc (by simp; omega) _⟩
  · go_enter Try.func18, Try.ntmps18
    go_wp2_with fail
    have hb3 : Below w.heap.size w (((w.alloc (Obj.cells #[px, Value.slice (some { block := S, off := 0 }) ns ns] 29)).alloc (Obj.cells #[Value.int IntKind.i64 to] 2)).alloc (Obj.cells #[Value.int IntKind.i64 pos] 2)) :=
      (((Below.refl _ _).alloc (Nat.le_refl _) _).alloc (by simp) _).alloc (by simp; omega) _
    have h3 := three w #[px, Value.slice (some { block := S, off := 0 }) ns ns] #[Value.int IntKind.i64 to] #[Value.int IntKind.i64 pos] 29 2 2
    refine (search_any w.heap.size (w.heap.size + 1) (w.heap.size + 1 + 1) S ns st to pos _ hns h0 h1 h2 hm ((h3 1).1.trans rfl) (fun k hk => keepC hb3 (cs k hk)) ((h3 0).2.1.trans rfl) ((h3 0).2.2.trans rfl)).mono ?_
    rintro e w' ⟨⟨k, rfl, hk1, hk2, hk3⟩, q, rfl⟩
    go_wp2_with fail
    go_ret
    exact ⟨⟨k, rfl, hk1, hk2, hk3⟩, below_drewN hb3 _⟩
end Go.Proofs.Qxb6613536a
