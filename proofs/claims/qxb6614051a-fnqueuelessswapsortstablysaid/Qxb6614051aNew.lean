import Derived.Test.Qxb6614051aQue
import Derived.LoopTactic
namespace Go.Proofs.Qxb6614051a
open Go.RowKit
set_option linter.unusedVariables false
set_option linter.unusedSimpArgs false

theorem Try.info32 : (Try.prog.info? 32).map (fun i => (i.zero, i.size, i.bytes)) = some (some (.pointer none), 1, 8) := by kernel_rfl

/-- The queue while it is filled: k of its n places stand. -/
structure QueK (w0 w : World) (qb sb n k : Nat) (E : Nat → Nat) (d : Nat → Int) : Prop where
  bel : Below w0.heap.size w0 w
  bq : w0.heap.size ≤ qb
  bs : w0.heap.size ≤ sb
  be : ∀ i, i < k → w0.heap.size ≤ E i
  q0 : w.cell? ⟨qb, 0, none⟩ = some (.slice (some ⟨sb, 0, none⟩) n n)
  q1 : w.cell? ⟨qb, 1, none⟩ = some (.func (Fn.func 10) #[] #[])
  q2 : w.cell? ⟨qb, 2, none⟩ = some (.func (Fn.func 11) #[] #[])
  s : w.rowIs sb 32 n (fun i => if i < k then .pointer (some ⟨E i, 0, none⟩) else .pointer none)
  e : ∀ i, i < k → Ent w (E i) (d i) i i
  inj : ∀ i j, i < k → j < k → E i = E j → i = j
  nqs : sb ≠ qb
  neq : ∀ i, i < k → E i ≠ qb
  nes : ∀ i, i < k → E i ≠ sb

theorem QueK.whole {w0 w : World} {qb sb n : Nat} {E : Nat → Nat} {d : Nat → Int} (h : QueK w0 w qb sb n n E d) : Que w w0.heap.size qb sb n E (fun i => i) d :=
  { bq := h.bq, bs := h.bs, be := h.be, q0 := h.q0, q1 := h.q1, q2 := h.q2, e := h.e, inj := h.inj, nqs := h.nqs, neq := h.neq, nes := h.nes
    s := h.s.congr fun i hi => by rw [if_pos hi] }

theorem QueK.step {w0 wr w2 : World} {qb sb n k : Nat} {E : Nat → Nat} {d : Nat → Int} {f : Nat → Value} {X : Obj} (h : QueK w0 wr qb sb n k E d) (hk : k < n) (hb : Below (wr.alloc X).heap.size (wr.alloc X) w2)
    (row : w2.rowIs wr.heap.size 41 24 f) (f17 : f 17 = .int .i64 k) :
    QueK w0 (((((w2.setCell ⟨wr.heap.size, 6, none⟩ (.int .u64 (d k % 1000000000))).setCell ⟨wr.heap.size, 7, none⟩ (.int .i64 (d k / 1000000000))).setCell ⟨wr.heap.size, 8, none⟩ (.pointer none)).setCell ⟨wr.heap.size, 10, none⟩ (.int .u64 k)).setCell ⟨sb, k, none⟩ (.pointer (some ⟨wr.heap.size, 0, none⟩)))
      qb sb n (k + 1) (fun i => if i = k then wr.heap.size else E i) d := by
  have hsz : w0.heap.size ≤ wr.heap.size := h.bel.size
  have hq := lt_of_cell h.q0
  have hs := h.s.lt
  have he : ∀ i, i < k → E i < wr.heap.size := fun i hi => by obtain ⟨g, g1, _⟩ := h.e i hi; exact g1.lt
  have hold : ∀ b, b < wr.heap.size → w2.heap[b]? = wr.heap[b]? := fun b hb' =>
    (hb.block b (by rw [World.size_alloc]; omega)).trans (Below.heap_alloc _ _ _ hb')
  have oth : ∀ b, b < wr.heap.size → b ≠ sb → (((((w2.setCell ⟨wr.heap.size, 6, none⟩ (.int .u64 (d k % 1000000000))).setCell ⟨wr.heap.size, 7, none⟩ (.int .i64 (d k / 1000000000))).setCell ⟨wr.heap.size, 8, none⟩ (.pointer none)).setCell ⟨wr.heap.size, 10, none⟩ (.int .u64 k)).setCell ⟨sb, k, none⟩ (.pointer (some ⟨wr.heap.size, 0, none⟩))).heap[b]? = wr.heap[b]? := by
    intro b h1 h2
    have h3 : b ≠ wr.heap.size := by omega
    rw [Below.heap_setCell _ _ _ _ (by simpa using h2), Below.heap_setCell _ _ _ _ (by simpa using h3), Below.heap_setCell _ _ _ _ (by simpa using h3), Below.heap_setCell _ _ _ _ (by simpa using h3), Below.heap_setCell _ _ _ _ (by simpa using h3)]
    exact hold b h1
  have hqb : qb ≠ sb := fun e => h.nqs e.symm
  have b1 : Below w0.heap.size w0 w2 := (h.bel.alloc hsz X).trans (hb.mono (by rw [World.size_alloc]; omega))
  refine { bq := h.bq, bs := h.bs, nqs := h.nqs, bel := ?_, be := ?_, q0 := ?_, q1 := ?_, q2 := ?_, s := ?_, e := ?_, inj := ?_, neq := ?_, nes := ?_ }
  · exact ((((b1.setCell (p := ⟨wr.heap.size, 6, none⟩) hsz _).setCell (p := ⟨wr.heap.size, 7, none⟩) hsz _).setCell (p := ⟨wr.heap.size, 8, none⟩) hsz _).setCell (p := ⟨wr.heap.size, 10, none⟩) hsz _).setCell (p := ⟨sb, k, none⟩) h.bs _
  · intro i hi
    by_cases e : i = k
    · simp [e, hsz]
    · simpa [e] using h.be i (by omega)
  · exact (World.cell?_of_block (w := wr) (a := ⟨qb, 0, none⟩) (oth qb hq hqb)).trans h.q0
  · exact (World.cell?_of_block (w := wr) (a := ⟨qb, 1, none⟩) (oth qb hq hqb)).trans h.q1
  · exact (World.cell?_of_block (w := wr) (a := ⟨qb, 2, none⟩) (oth qb hq hqb)).trans h.q2
  · have r0 := h.s.of_block (hold sb hs)
    have r1 := (((r0.setOther (a := ⟨wr.heap.size, 6, none⟩) (by show sb ≠ wr.heap.size; omega) (.int .u64 (d k % 1000000000))).setOther (a := ⟨wr.heap.size, 7, none⟩) (by show sb ≠ wr.heap.size; omega) (.int .i64 (d k / 1000000000))).setOther (a := ⟨wr.heap.size, 8, none⟩) (by show sb ≠ wr.heap.size; omega) (.pointer none)).setOther (a := ⟨wr.heap.size, 10, none⟩) (by show sb ≠ wr.heap.size; omega) (.int .u64 k)
    refine (r1.set k (.pointer (some ⟨wr.heap.size, 0, none⟩))).congr ?_
    intro i hi
    by_cases e : i = k
    · simp [e]
    · by_cases e2 : i < k
      · have e3 : i < k + 1 := by omega
        simp [e, e2, e3]
      · have e3 : ¬ i < k + 1 := by omega
        simp [e, e2, e3]
  · intro i hi
    by_cases e : i = k
    · subst e
      simp only [if_true]
      exact ⟨_, ((((row.set 6 _).set 7 _).set 8 _).set 10 _).setOther (a := ⟨sb, i, none⟩) (by show wr.heap.size ≠ sb; omega) _, by simp, by simp, by simp, by simp, by simp [f17]⟩
    · simp only [if_neg e]
      exact (h.e i (by omega)).of_block (oth (E i) (he i (by omega)) (h.nes i (by omega)))
  · intro i j hi hj
    by_cases e : i = k
    · by_cases e2 : j = k
      · intro _; omega
      · have := he j (by omega)
        simp [e, e2]; omega
    · by_cases e2 : j = k
      · have := he i (by omega)
        simp [e, e2]; omega
      · simp only [if_neg e, if_neg e2]
        exact h.inj i j (by omega) (by omega)
  · intro i hi
    by_cases e : i = k
    · simp [e]; omega
    · simpa [e] using h.neq i (by omega)
  · intro i hi
    by_cases e : i = k
    · simp [e]; omega
    · simpa [e] using h.nes i (by omega)

set_option maxHeartbeats 1000000 in
theorem new_some (D n : Nat) (d : Nat → Int) (w : World) (hn : n ≤ 1048576) (hD : D < w.heap.size) (hc : ∀ k, k < n → w.cell? ⟨D, k, none⟩ = some (.int .i64 (d k))) (hwf : ∀ k, k < n → (Lit.int .i64 (d k)).wf = true) :
    Calls Try.prog 5 #[.slice (some ⟨D, 0, none⟩) n n] w fun e w' => ∃ qb sb E, e = .returned (.pointer (some ⟨qb, 0, none⟩)) ∧ Below w.heap.size w w' ∧ Que w' w.heap.size qb sb n E (fun i => i) d := by
  have hmk := fun w => run_make_row' (P := Try.prog) 45 32 (.pointer none) 8 Try.underlying45 Try.info32 rfl .i64 .i64 n (by omega) (by omega) w
  go_enter Try.func5, Try.ntmps5
  go_wp2_with fail
  clear hmk
  go_loopw [4] (fun i wr => ∃ (k : Nat) (E : Nat → Nat), k ≤ n ∧ i = .int .i64 k ∧ QueK w wr w.heap.size (w.heap.size + 1) n k E d) (fun i _ => n - (intOf i).toNat)
  case atStart =>
    refine ⟨0, fun _ => 0, Nat.zero_le _, rfl, ?_⟩
    exact { bel := ((Below.refl _ _).alloc (Nat.le_refl _) _).alloc (by simp) _, bq := Nat.le_refl _, bs := Nat.le_succ _, be := fun i hi => absurd hi (Nat.not_lt_zero _),
            q0 := by simp, q1 := by simp, q2 := by simp, s := by
              have h := World.rowIs_made (w.alloc (Obj.cells #[Value.slice (some { block := w.heap.size + 1, off := 0 }) n n, Value.func (Fn.func 10) #[] #[], Value.func (Fn.func 11) #[] #[], Value.chan none] 48)) (.pointer none) n 32
              rw [World.size_alloc] at h
              exact h.congr fun i _ => by simp
            e := fun i hi => absurd hi (Nat.not_lt_zero _), inj := fun i j hi => absurd hi (Nat.not_lt_zero _), nqs := by omega, neq := fun i hi => absurd hi (Nat.not_lt_zero _), nes := fun i hi => absurd hi (Nat.not_lt_zero _) }
  case round =>
    obtain ⟨k, E, hk, rfl, hQ⟩ := hrel
    by_cases hlt : k < n
    · have c0 := hQ.q0
      have cD : wr.cell? ⟨D, k, none⟩ = some (.int .i64 (d k)) := (hQ.bel.cell hD).trans (hc k hlt)
      have hDr : D < wr.heap.size := Nat.lt_of_lt_of_le hD hQ.bel.size
      have cs : wr.cell? ⟨w.heap.size + 1, k, none⟩ = some (.pointer none) := by simpa using hQ.s.cell hlt
      have hqr : w.heap.size < wr.heap.size := lt_of_cell c0
      have hsr : w.heap.size + 1 < wr.heap.size := lt_of_cell cs
      have fs := hQ.s.frozen k
      have kb : (k : Int) < (n : Int) := by omega
      go_wp2_with fail
      refine (add_any (d k) _ (hwf k hlt)).mono ?_
      rintro e w2 ⟨rfl, hb⟩
      have hz := hb.size
      rw [World.size_alloc] at hz
      have c0' := keepC hb ((World.cell?_alloc_past _ _ _ hqr).trans c0)
      have cs' := keepC hb ((World.cell?_alloc_past _ _ _ hsr).trans cs)
      have fs' : w2.frozen? ⟨w.heap.size + 1, k, none⟩ = false := (hb.frozen (p := ⟨w.heap.size + 1, k, none⟩) (by rw [World.size_alloc]; exact Nat.lt_succ_of_lt hsr)).trans ((World.frozen?_alloc_past _ _ _ hsr).trans fs)
      have row : ∃ f, w2.rowIs wr.heap.size 41 24 f ∧ f 17 = .int .i64 k := by
        refine ⟨fun i => #[Value.string { data := #[] }, Value.string { data := #[] }, Value.string { data := #[] },
                Value.int IntKind.u64 0, Value.int IntKind.i64 0, Value.pointer none, Value.int IntKind.u64 0,
                Value.int IntKind.i64 0, Value.pointer none, Value.string { data := #[] }, Value.int IntKind.u64 0,
                Value.slice none 0 0, Value.int IntKind.u64 0, Value.int IntKind.u64 0, Value.int IntKind.u64 0,
                Value.int IntKind.i64 0, Value.pointer none, Value.int IntKind.i64 ↑k, Value.int IntKind.i64 (-1),
                Value.int IntKind.u64 0, Value.int IntKind.i64 0, Value.pointer none, Value.bool false,
                Value.bool false].getD i undef, World.rowIs.of_block (World.rowIs_alloc wr _ 41 _ ?_) (hb.block _ (by rw [World.size_alloc]; omega)), rfl⟩
        intro i hi
        rw [Array.getD_eq_getD_getElem?, Array.getElem?_eq_getElem hi]
        rfl
      obtain ⟨f, row, f17⟩ := row
      have x6 := row.cell (i := 6) (by omega)
      have x7 := row.cell (i := 7) (by omega)
      have x8 := row.cell (i := 8) (by omega)
      have x10 := row.cell (i := 10) (by omega)
      have z6 := row.frozen 6
      have z7 := row.frozen 7
      have z8 := row.frozen 8
      have z10 := row.frozen 10
      have n1 : ¬ wr.heap.size = w.heap.size := by omega
      have n2 : ¬ wr.heap.size = w.heap.size + 1 := by omega
      have hQ2 : Hid (QueK w wr w.heap.size (w.heap.size + 1) n k E d) := hQ
      have HB : Hid _ := hb
      have Hrow : Hid _ := row
      clear hb row hQ
      go_wp2_with fail
      go_roundw
      case rel => exact ⟨k + 1, _, by omega, by go_num, hQ2.out.step hlt HB.out Hrow.out f17⟩
      case measure => simp [intOf]; omega
    · go_wp2
      go_ret
      obtain rfl : k = n := by omega
      exact ⟨_, _, E, rfl, hQ.bel, hQ.whole⟩

set_option maxHeartbeats 1000000 in
theorem new_nil (w : World) :
    Calls Try.prog 5 #[.slice none 0 0] w fun e w' => e = .returned (.pointer (some ⟨w.heap.size, 0, none⟩)) ∧ Below w.heap.size w w' := by
  have hmk : ∀ w : World, (Instr.makeSlice 45 (.int .i64 0) (.int .i64 0)).run Try.prog w = .ok (.slice (some ⟨w.heap.size, 0, none⟩) 0 0) (w.alloc (.cells (madeCells #[.pointer none] 0) 32)) :=
    fun w => run_make_row' (P := Try.prog) 45 32 (.pointer none) 8 Try.underlying45 Try.info32 rfl .i64 .i64 0 (by omega) (by omega) w
  go_enter Try.func5, Try.ntmps5
  go_wp2_with fail
  clear hmk
  refine wp_loop_rounds 1 ?_
  rw [rounds_succ]
  go_wp2
  go_ret
  exact ⟨rfl, ((Below.refl _ _).alloc (Nat.le_refl _) _).alloc (by simp) _⟩
end Go.Proofs.Qxb6614051a
