import Derived.Test.Qxb6614051aSwap
namespace Go.Proofs.Qxb6614051a
open Go.RowKit
set_option linter.unusedVariables false
set_option linter.unusedSimpArgs false

/-- AN ENTRY at block b: its deadline is d nanoseconds from the zero time, its seq is s, its queued field is q. -/
def Ent (w : World) (b : Nat) (d : Int) (s q : Nat) : Prop :=
  ∃ f, w.rowIs b 41 24 f ∧ f 6 = .int .u64 (d % 1000000000) ∧ f 7 = .int .i64 (d / 1000000000) ∧ f 8 = .pointer none ∧ f 10 = .int .u64 s ∧ f 17 = .int .i64 q

theorem Ent.of_block {w w' : World} {b : Nat} {d : Int} {s q : Nat} (h : Ent w b d s q) (e : w'.heap[b]? = w.heap[b]?) : Ent w' b d s q := by
  obtain ⟨f, h1, h2⟩ := h
  exact ⟨f, h1.of_block e, h2⟩

theorem Ent.set {w : World} {b : Nat} {d : Int} {s q : Nat} (h : Ent w b d s q) (q' : Nat) : Ent (w.setCell ⟨b, 17, none⟩ (.int .i64 q')) b d s q' := by
  obtain ⟨f, h1, a, b', c, e, g⟩ := h
  exact ⟨_, h1.set 17 _, by simp [a], by simp [b'], by simp [c], by simp [e], by simp⟩

/-- THE QUEUE: qb: the struct's block; sb: the block of its array of n pointers; at place i stands the entry at block E i, whose seq is p i. d: the deadlines by seq. All of it from block B on. -/
structure Que (w : World) (B qb sb n : Nat) (E p : Nat → Nat) (d : Nat → Int) : Prop where
  bq : B ≤ qb
  bs : B ≤ sb
  be : ∀ i, i < n → B ≤ E i
  q0 : w.cell? ⟨qb, 0, none⟩ = some (.slice (some ⟨sb, 0, none⟩) n n)
  q1 : w.cell? ⟨qb, 1, none⟩ = some (.func (Fn.func 10) #[] #[])
  q2 : w.cell? ⟨qb, 2, none⟩ = some (.func (Fn.func 11) #[] #[])
  s : w.rowIs sb 32 n (fun i => .pointer (some ⟨E i, 0, none⟩))
  e : ∀ i, i < n → Ent w (E i) (d (p i)) (p i) i
  inj : ∀ i j, i < n → j < n → E i = E j → i = j
  nqs : sb ≠ qb
  neq : ∀ i, i < n → E i ≠ qb
  nes : ∀ i, i < n → E i ≠ sb

theorem Que.elt {w : World} {B qb sb n : Nat} {E p : Nat → Nat} {d : Nat → Int} (h : Que w B qb sb n E p d) {i : Nat} (hi : i < n) : E i < w.heap.size := by
  obtain ⟨f, h1, _⟩ := h.e i hi
  exact h1.lt

/-- What is made behind the queue leaves it alone. -/
theorem Que.below {w w' : World} {B qb sb n : Nat} {E p : Nat → Nat} {d : Nat → Int} (h : Que w B qb sb n E p d) (hb : Below w.heap.size w w') : Que w' B qb sb n E p d :=
  { bq := h.bq, bs := h.bs, be := h.be, inj := h.inj, nqs := h.nqs, neq := h.neq, nes := h.nes
    q0 := keepC hb h.q0
    q1 := keepC hb h.q1
    q2 := keepC hb h.q2
    s := h.s.of_block (hb.block _ h.s.lt)
    e := fun i hi => (h.e i hi).of_block (hb.block _ (h.elt hi)) }

theorem less_any {w : World} {B qb sb n : Nat} {E p : Nat → Nat} {d : Nat → Int} (h : Que w B qb sb n E p d) (hn : n ≤ 1048576) {i j : Nat} (hi : i < n) (hj : j < n) :
    Calls Try.prog 6 #[.pointer (some ⟨qb, 0, none⟩), .int .i64 i, .int .i64 j] w fun e w' => e = .returned (.bool (decide (d (p i) < d (p j)))) ∧ Below w.heap.size w w' := by
  obtain ⟨f, f1, f6, f7, f8, _⟩ := h.e i hi
  obtain ⟨g, g1, g6, g7, g8, _⟩ := h.e j hj
  exact less_core qb sb n i j (E i) (E j) _ _ w hn hi hj h.q0 h.q1 (h.s.cell hi) (h.s.cell hj) ((f1.cell (by omega)).trans (by rw [f6])) ((f1.cell (by omega)).trans (by rw [f7])) ((f1.cell (by omega)).trans (by rw [f8]))
    ((g1.cell (by omega)).trans (by rw [g6])) ((g1.cell (by omega)).trans (by rw [g7])) ((g1.cell (by omega)).trans (by rw [g8]))

/-- Two places exchanged. -/
def sw (f : Nat → Nat) (i j : Nat) : Nat → Nat := fun x => if x = i then f j else if x = j then f i else f x

theorem swap_any {w : World} {B qb sb n : Nat} {E p : Nat → Nat} {d : Nat → Int} (h : Que w B qb sb n E p d) {i j : Nat} (hi : i < n) (hj : j < n) (hij : i ≠ j) :
    Calls Try.prog 7 #[.pointer (some ⟨qb, 0, none⟩), .int .i64 i, .int .i64 j] w fun e w' => e = .returned (.tuple #[]) ∧ Below B w w' ∧ w'.heap.size = w.heap.size ∧ Que w' B qb sb n (sw E i j) (sw p i j) d := by
  obtain ⟨f, f1, f6, f7, f8, f10, f17⟩ := h.e i hi
  obtain ⟨g, g1, g6, g7, g8, g10, g17⟩ := h.e j hj
  have hE : E i ≠ E j := fun e => hij (h.inj i j hi hj e)
  refine (swap_core qb sb n i j (E i) (E j) (f 17) (g 17) w hi hj hij (fun e => hij e.symm) h.q0 h.q2 (h.s.cell hi) (h.s.cell hj) (h.s.frozen _) (h.s.frozen _) (f1.cell (by omega)) (g1.cell (by omega)) (f1.frozen _) (g1.frozen _)
    (fun e => h.nes i hi e.symm) (fun e => h.nes j hj e.symm) hE h.nqs (h.neq i hi) (h.neq j hj)).mono ?_
  rintro e w' ⟨rfl, rfl⟩
  refine ⟨rfl, ?_, by simp, ?_⟩
  · exact (((((Below.refl B w).setCell (p := ⟨sb, i, none⟩) h.bs _).setCell (p := ⟨sb, j, none⟩) h.bs _).setCell (p := ⟨E j, 17, none⟩) (h.be j hj) _).setCell (p := ⟨E i, 17, none⟩) (h.be i hi) _).drew.drew
  · have oth : ∀ k, k ≠ sb → k ≠ E i → k ≠ E j → ((((w.setCell ⟨sb, i, none⟩ (.pointer (some ⟨E j, 0, none⟩))).setCell ⟨sb, j, none⟩ (.pointer (some ⟨E i, 0, none⟩))).setCell ⟨E j, 17, none⟩ (.int .i64 i)).setCell ⟨E i, 17, none⟩ (.int .i64 j)).drew.drew.heap[k]? = w.heap[k]? := by
      intro k k1 k2 k3
      show ((((w.setCell ⟨sb, i, none⟩ (.pointer (some ⟨E j, 0, none⟩))).setCell ⟨sb, j, none⟩ (.pointer (some ⟨E i, 0, none⟩))).setCell ⟨E j, 17, none⟩ (.int .i64 i)).setCell ⟨E i, 17, none⟩ (.int .i64 j)).heap[k]? = w.heap[k]?
      rw [Below.heap_setCell _ _ _ _ (by simpa using k2), Below.heap_setCell _ _ _ _ (by simpa using k3), Below.heap_setCell _ _ _ _ (by simpa using k1), Below.heap_setCell _ _ _ _ (by simpa using k1)]
    have hq : ∀ o, ((((w.setCell ⟨sb, i, none⟩ (.pointer (some ⟨E j, 0, none⟩))).setCell ⟨sb, j, none⟩ (.pointer (some ⟨E i, 0, none⟩))).setCell ⟨E j, 17, none⟩ (.int .i64 i)).setCell ⟨E i, 17, none⟩ (.int .i64 j)).drew.drew.cell? ⟨qb, o, none⟩ = w.cell? ⟨qb, o, none⟩ :=
      fun o => World.cell?_of_block (w := w) (oth qb (fun e => h.nqs e.symm) (fun e => h.neq i hi e.symm) (fun e => h.neq j hj e.symm))
    have hsE : ∀ x, x < n → sw E i j x = E (if x = i then j else if x = j then i else x) := by
      intro x _; unfold sw; split
      · rfl
      · split <;> rfl
    have hlt : ∀ x, x < n → (if x = i then j else if x = j then i else x) < n := by
      intro x hx; split
      · exact hj
      · split
        · exact hi
        · exact hx
    refine { bq := h.bq, bs := h.bs, nqs := h.nqs, q0 := (hq 0).trans h.q0, q1 := (hq 1).trans h.q1, q2 := (hq 2).trans h.q2, be := ?_, s := ?_, e := ?_, inj := ?_, neq := ?_, nes := ?_ }
    · intro x hx; rw [hsE x hx]; exact h.be _ (hlt x hx)
    · refine (((((h.s.set i _).set j _).setOther (a := ⟨E j, 17, none⟩) (fun e => h.nes j hj e.symm) _).setOther (a := ⟨E i, 17, none⟩) (fun e => h.nes i hi e.symm) _).drew.drew).congr ?_
      intro x hx
      unfold sw
      by_cases e1 : x = j
      · subst e1; simp; intro e; exact absurd e.symm hij
      · by_cases e2 : x = i
        · subst e2; simp [hij]
        · simp [e1, e2]
    · intro x hx
      by_cases e1 : x = i
      · subst e1
        have a1 : sw E x j x = E j := by simp [sw]
        have a2 : sw p x j x = p j := by simp [sw]
        rw [a1, a2]
        have h0 : Ent ((w.setCell ⟨sb, x, none⟩ (.pointer (some ⟨E j, 0, none⟩))).setCell ⟨sb, j, none⟩ (.pointer (some ⟨E x, 0, none⟩))) (E j) (d (p j)) (p j) j :=
          (h.e j hj).of_block (by rw [Below.heap_setCell _ _ _ _ (by simpa using h.nes j hj), Below.heap_setCell _ _ _ _ (by simpa using h.nes j hj)])
        exact (h0.set x).of_block (w' := _) (by show (World.setCell _ _ _).heap[_]? = _; rw [Below.heap_setCell _ _ _ _ (by simpa using fun e => hE e.symm)])
      · by_cases e2 : x = j
        · subst e2
          have a1 : sw E i x x = E i := by simp [sw, e1]
          have a2 : sw p i x x = p i := by simp [sw, e1]
          rw [a1, a2]
          have h0 : Ent (((w.setCell ⟨sb, i, none⟩ (.pointer (some ⟨E x, 0, none⟩))).setCell ⟨sb, x, none⟩ (.pointer (some ⟨E i, 0, none⟩))).setCell ⟨E x, 17, none⟩ (.int .i64 i)) (E i) (d (p i)) (p i) i :=
            (h.e i hi).of_block (by rw [Below.heap_setCell _ _ _ _ (by simpa using hE), Below.heap_setCell _ _ _ _ (by simpa using h.nes i hi), Below.heap_setCell _ _ _ _ (by simpa using h.nes i hi)])
          exact h0.set x
        · have a1 : sw E i j x = E x := by simp [sw, e1, e2]
          have a2 : sw p i j x = p x := by simp [sw, e1, e2]
          rw [a1, a2]
          exact (h.e x hx).of_block (oth (E x) (h.nes x hx) (fun e => e1 (h.inj x i hx hi e)) (fun e => e2 (h.inj x j hx hj e)))
    · intro x y hx hy he
      rw [hsE x hx, hsE y hy] at he
      have he := h.inj _ _ (hlt x hx) (hlt y hy) he
      split at he <;> split at he <;> (try split at he) <;> (try split at he) <;> omega
    · intro x hx; rw [hsE x hx]; exact h.neq _ (hlt x hx)
    · intro x hx; rw [hsE x hx]; exact h.nes _ (hlt x hx)

set_option maxHeartbeats 400000 in
theorem seq_core (qb sb n i e1 : Nat) (v : Int) (w : World) (hi : i < n)
    (q0 : w.cell? ⟨qb, 0, none⟩ = some (.slice (some ⟨sb, 0, none⟩) n n)) (si : w.cell? ⟨sb, i, none⟩ = some (.pointer (some ⟨e1, 0, none⟩))) (hc : w.cell? ⟨e1, 10, none⟩ = some (.int .u64 v)) :
    Calls Try.prog 8 #[.pointer (some ⟨qb, 0, none⟩), .int .i64 i] w fun e w' => e = .returned (.int .u64 v) ∧ w' = w := by
  have ib : (i : Int) < (n : Int) := by omega
  go_enter Try.func8, Try.ntmps8
  go_wp2
  go_ret
  exact ⟨rfl, rfl⟩

set_option maxHeartbeats 400000 in
theorem ind_core (qb sb n i e1 : Nat) (v : Int) (w : World) (hi : i < n)
    (q0 : w.cell? ⟨qb, 0, none⟩ = some (.slice (some ⟨sb, 0, none⟩) n n)) (si : w.cell? ⟨sb, i, none⟩ = some (.pointer (some ⟨e1, 0, none⟩))) (hc : w.cell? ⟨e1, 17, none⟩ = some (.int .i64 v)) :
    Calls Try.prog 9 #[.pointer (some ⟨qb, 0, none⟩), .int .i64 i] w fun e w' => e = .returned (.int .i64 v) ∧ w' = w := by
  have ib : (i : Int) < (n : Int) := by omega
  go_enter Try.func9, Try.ntmps9
  go_wp2
  go_ret
  exact ⟨rfl, rfl⟩

theorem seq_any {w : World} {B qb sb n : Nat} {E p : Nat → Nat} {d : Nat → Int} (h : Que w B qb sb n E p d) {i : Nat} (hi : i < n) :
    Calls Try.prog 8 #[.pointer (some ⟨qb, 0, none⟩), .int .i64 i] w fun e w' => e = .returned (.int .u64 (p i)) ∧ w' = w := by
  obtain ⟨f, f1, f6, f7, f8, f10, f17⟩ := h.e i hi
  exact seq_core qb sb n i (E i) _ w hi h.q0 (h.s.cell hi) ((f1.cell (by omega)).trans (by rw [f10]))

theorem ind_any {w : World} {B qb sb n : Nat} {E p : Nat → Nat} {d : Nat → Int} (h : Que w B qb sb n E p d) {i : Nat} (hi : i < n) :
    Calls Try.prog 9 #[.pointer (some ⟨qb, 0, none⟩), .int .i64 i] w fun e w' => e = .returned (.int .i64 i) ∧ w' = w := by
  obtain ⟨f, f1, f6, f7, f8, f10, f17⟩ := h.e i hi
  exact ind_core qb sb n i (E i) _ w hi h.q0 (h.s.cell hi) ((f1.cell (by omega)).trans (by rw [f17]))
end Go.Proofs.Qxb6614051a
