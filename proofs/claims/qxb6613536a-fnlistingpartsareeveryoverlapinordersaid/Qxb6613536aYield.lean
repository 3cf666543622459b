import Derived.Test.Qxb6613536aFirst
import Derived.Laws.AppendOwn
import Derived.Laws.OwnMore
import Derived.OwnWalk
import Derived.Maps.AppendAt
import Derived.Deep.OwnRows
namespace Go.Proofs.Qxb6613536a
open Go.RowKit
set_option linter.unusedVariables false
set_option linter.unusedSimpArgs false

def cells4 (p : Pt) : List Value := [.int .i64 p.1, .int .i64 p.2.1, .int .i64 p.2.2.1, .int .i64 p.2.2.2]
def flat (ps : List Pt) : List Value := ps.flatMap cells4
theorem flat_snoc (ps : List Pt) (p : Pt) : flat (ps ++ [p]) = flat ps ++ cells4 p := by simp [flat]
theorem flat_len (ps : List Pt) : (flat ps).length = ps.length * 4 := by
  induction ps with
  | nil => rfl
  | cons a t ih => simp only [flat, List.flatMap_cons, List.length_append] at ih ⊢; rw [ih]; simp [cells4]; omega

theorem info35 : ∃ i, Try.prog.info? 35 = some i ∧ i.zero = some (.agg #[.int .i64 0, .int .i64 0, .int .i64 0, .int .i64 0]) ∧ i.size = 4 ∧ i.bytes = 32 := by
  have h : (Try.prog.info? 35).map (fun i => (i.zero, i.size, i.bytes)) = some (some (.agg #[.int .i64 0, .int .i64 0, .int .i64 0, .int .i64 0]), 4, 32) := by kernel_rfl
  obtain ⟨i, hi, h2⟩ := Option.map_eq_some_iff.1 h
  simp only [Prod.mk.injEq] at h2
  exact ⟨i, hi, h2⟩

/-- The captured variable 'out' at block O: it holds the parts ps, in memory of the call's own. -/
def OutIs (w : World) (O : Nat) (ps : List Pt) : Prop :=
  ∃ v, w.cell? ⟨O, 0, none⟩ = some v ∧ w.frozen? ⟨O, 0, none⟩ = false ∧ w.ownsRow (O + 1) 35 4 v ps.length (flat ps)

/-- Block k is the row in which the parts lie. -/
def OutRow (w : World) (O k : Nat) : Prop := ∃ v, w.cell? ⟨O, 0, none⟩ = some v ∧ v.ownBlock = some k

/-- All that was there is as it was, but for the variable 'out' and the row of its parts; that row is the old one or a new one. -/
structure Fr (O : Nat) (w w' : World) : Prop where
  os : w'.os = w.os
  tape : w'.tape = w.tape
  output : w'.output = w.output
  size : w.heap.size ≤ w'.heap.size
  block : ∀ k, k < w.heap.size → k ≠ O → ¬ OutRow w O k → w'.heap[k]? = w.heap[k]?
  row : ∀ k, OutRow w' O k → OutRow w O k ∨ w.heap.size ≤ k

theorem OutIs.lt {w : World} {O : Nat} {ps : List Pt} (h : OutIs w O ps) : O < w.heap.size := by
  obtain ⟨v, h1, _⟩ := h
  exact lt_of_cell h1

theorem OutIs.row {w : World} {O : Nat} {ps : List Pt} (h : OutIs w O ps) {k : Nat} (hk : OutRow w O k) : O + 1 ≤ k ∧ k < w.heap.size := by
  obtain ⟨v, h1, _, h3⟩ := h
  obtain ⟨u, k1, k2⟩ := hk
  have e : v = u := Option.some.inj (h1.symm.trans k1)
  subst e
  exact h3.lt k k2

theorem Fr.refl (O : Nat) (w : World) : Fr O w w := ⟨rfl, rfl, rfl, Nat.le_refl _, fun _ _ _ _ => rfl, fun _ h => Or.inl h⟩

theorem Fr.trans {O : Nat} {a b c : World} (h : Fr O a b) (k : Fr O b c) : Fr O a c := by
  refine ⟨k.os.trans h.os, k.tape.trans h.tape, k.output.trans h.output, Nat.le_trans h.size k.size, fun i h1 h2 h3 => ?_, fun i hi => ?_⟩
  · refine (k.block i (Nat.lt_of_lt_of_le h1 h.size) h2 fun hr => ?_).trans (h.block i h1 h2 h3)
    rcases h.row i hr with h4 | h4
    · exact h3 h4
    · omega
  · have hs := h.size
    rcases k.row i hi with h4 | h4
    · exact h.row i h4
    · exact Or.inr (by omega)

theorem Fr.of_below {O : Nat} {a b : World} (hO : O < a.heap.size) (h : Below a.heap.size a b) : Fr O a b :=
  ⟨h.os, h.tape, h.output, h.size, fun k hk _ _ => h.block k hk, fun k ⟨v, h1, h2⟩ => Or.inl ⟨v, (h.cell (p := ⟨O, 0, none⟩) hO).symm.trans h1, h2⟩⟩

theorem Fr.below {O : Nat} {a b : World} {ps : List Pt} (h : Fr O a b) (ha : OutIs a O ps) : Below O a b :=
  ⟨h.os, h.tape, h.output, h.size, fun k hk => h.block k (Nat.lt_trans hk ha.lt) (by omega) (fun hr => by have := (ha.row hr).1; omega)⟩

/-- A cell of a block that was there, and is neither the variable's nor the row's. -/
theorem Fr.cell {O : Nat} {a b : World} (h : Fr O a b) {g o : Nat} {v : Value} (hc : a.cell? ⟨g, o, none⟩ = some v) (h1 : g ≠ O) (h2 : ¬ OutRow a O g) : b.cell? ⟨g, o, none⟩ = some v :=
  (World.cell?_of_block (w := a) (a := ⟨g, o, none⟩) (h.block g (lt_of_cell hc) h1 h2)).trans hc

theorem OutIs.of_below {w w' : World} {O : Nat} {ps : List Pt} (h : OutIs w O ps) (hb : Below w.heap.size w w') : OutIs w' O ps := by
  have hO := h.lt
  obtain ⟨v, h1, h2, h3⟩ := h
  refine ⟨v, keepC hb h1, (hb.frozen (p := ⟨O, 0, none⟩) hO).trans h2, h3.kept (row := none) ⟨hb.os, hb.tape, hb.output, hb.size, fun k hk _ => hb.block k hk⟩ ?_⟩
  cases v.ownBlock with
  | none => exact Or.inl rfl
  | some k => exact Or.inr (by simp)

theorem cell_four_new (w : World) (a b c d : Value) (t : TypeId) : ∀ j u, [a, b, c, d][j]? = some u → (w.alloc (.cells #[a, b, c, d] t)).cell? ((⟨w.heap.size, 0, none⟩ : Addr).add j) = some u := by
  intro j u h
  have e : (⟨w.heap.size, 0, none⟩ : Addr).add j = ⟨w.heap.size, j, none⟩ := by
    unfold Addr.add
    split
    · rename_i h0; subst h0; rfl
    · simp
  rw [e, World.cell?_alloc_new]
  simpa using h

theorem own_slice {w : World} {base : Nat} {e : TypeId} {size : Nat} {v : Value} {n : Nat} {xs : List Value} (h : w.ownsRow base e size v (n + 1) xs) : ∃ g cap, v = .slice (some ⟨g, 0, none⟩) (n + 1) cap := by
  rcases h.2 with ⟨_, h⟩ | ⟨g, cap, _, rfl, _⟩
  · cases h
  · exact ⟨g, cap, rfl⟩

theorem grow_keep {w w2 w3 : World} {O n : Nat} {v : Value} {xs : List Value} (hown : w.ownsRow (O + 1) 35 4 v n xs) (hb : Below w.heap.size w w2) (hg : w2.grownBy w3 v.ownBlock) {k : Nat} (h1 : k ≤ O) (h2 : k < w.heap.size) : w3.heap[k]? = w.heap[k]? := by
  have hz := hb.size
  refine (hg.block k (by omega) ?_).trans (hb.block k h2)
  intro e
  have := (hown.lt k e.symm).1
  omega

set_option maxHeartbeats 400000 in
theorem yield_any (O Lb : Nat) (L : Int) (ps : List Pt) (p1 p2 p3 p4 : Int) (w : World) (hO : OutIs w O ps) (hLb : Lb < O) (hl : w.cell? ⟨Lb, 0, none⟩ = some (.int .i64 L)) (hlen : ps.length < 1048576) :
    Calls Try.prog 17 #[.agg #[.int .i64 p1, .int .i64 p2, .int .i64 p3, .int .i64 p4], .pointer (some ⟨O, 0, none⟩), .pointer (some ⟨Lb, 0, none⟩)] w fun e w' =>
      e = .returned (.bool (decide (((ps.length + 1 : Nat) : Int) < L))) ∧ Fr O w w' ∧ OutIs w' O (ps ++ [(p1, p2, p3, p4)]) := by
  obtain ⟨v, cO, fO, hown⟩ := hO
  obtain ⟨i, hi, hz, hsz, hby⟩ := info35
  have hOs := lt_of_cell cO
  have hLs := lt_of_cell hl
  go_enter Try.func17, Try.ntmps17
  have hnews := cell_four_new (w.alloc (.cells #[.int .i64 p1, .int .i64 p2, .int .i64 p3, .int .i64 p4] 35)) (.int .i64 p1) (.int .i64 p2) (.int .i64 p3) (.int .i64 p4) 35
  rw [World.size_alloc] at hnews
  have hown2 := (hown.alloc (.cells #[.int .i64 p1, .int .i64 p2, .int .i64 p3, .int .i64 p4] 35)).alloc (.cells #[.int .i64 p1, .int .i64 p2, .int .i64 p3, .int .i64 p4] 35)
  have H1 : Hid (Try.prog.info? 35 = some i) := hi
  have H2 : Hid (i.zero = some (.agg #[.int .i64 0, .int .i64 0, .int .i64 0, .int .i64 0])) := hz
  have H3 : Hid (i.size = 4) := hsz
  have H4 : Hid (i.bytes = 32) := hby
  have H5 : Hid _ := hnews
  have H6 : Hid _ := hown2
  clear hi hz hsz hby hnews hown2
  have hb2 : Below w.heap.size w ((w.alloc (.cells #[.int .i64 p1, .int .i64 p2, .int .i64 p3, .int .i64 p4] 35)).alloc (.cells #[.int .i64 p1, .int .i64 p2, .int .i64 p3, .int .i64 p4] 35)) := ((Below.refl _ _).alloc (Nat.le_refl _) _).alloc (by simp) _
  go_wp2_with (at_builtin; go_must (refine wpList_append_own_at _ rfl _ _ 31 rfl (O + 1) 35 i (.agg #[.int .i64 0, .int .i64 0, .int .i64 0, .int .i64 0]) 4 32 Try.underlying31 H1.out H2.out H3.out H4.out rfl (by decide) v ps.length (flat ps) rfl H6.out ⟨w.heap.size + 1, 0, none⟩ 1 1 (cells4 (p1, p2, p3, p4)) rfl rfl H5.out (fun x hx => by simp [cells4] at hx; rcases hx with rfl | rfl | rfl | rfl <;> rfl) (by unfold maxLen; omega) (by omega) (by simp; omega) ?_; intro v' w3 hown3 hgrow3 hnil3 hat3; obtain ⟨g, cap, hv⟩ := own_slice hown3; rw [hv]; have hown4 : Hid (w3.ownsRow (O + 1) 35 4 (.slice (some ⟨g, 0, none⟩) (ps.length + 1) cap) (ps.length + 1) (flat ps ++ cells4 (p1, p2, p3, p4))) := hv ▸ hown3; have HG : Hid _ := hgrow3; have HA : Hid ((Value.slice (some ⟨g, 0, none⟩) (ps.length + 1) cap).ownBlock = v.ownBlock ∨ (Value.slice (some ⟨g, 0, none⟩) (ps.length + 1) cap).ownBlock = some (w.heap.size + 1 + 1)) := (by rw [← hv]; unfold Hid; simpa using hat3); have kO : w3.cell? ⟨O, 0, none⟩ = some v := (World.cell?_of_block (w := w) (a := ⟨O, 0, none⟩) (grow_keep hown hb2 hgrow3 (Nat.le_refl _) hOs)).trans cO; have kf : w3.frozen? ⟨O, 0, none⟩ = false := (World.frozen?_of_block (w := w) (a := ⟨O, 0, none⟩) (grow_keep hown hb2 hgrow3 (Nat.le_refl _) hOs)).trans fO; have kL : w3.cell? ⟨Lb, 0, none⟩ = some (.int .i64 L) := (World.cell?_of_block (w := w) (a := ⟨Lb, 0, none⟩) (grow_keep hown hb2 hgrow3 (Nat.le_of_lt hLb) hLs)).trans hl; have nOL : ¬ O = Lb := (fun e => by omega); clear hv hown3 hgrow3 hnil3 hat3 v'))
  go_ret
  refine ⟨?_, ?_, ?_⟩
  · show Ending.returned (.bool (decide ((ps.length : Int) + 1 < L))) = _
    rw [show ((ps.length + 1 : Nat) : Int) = (ps.length : Int) + 1 from by omega]
  · have hG := HG.out
    have hs2 := hb2.size
    refine ⟨hG.os.trans hb2.os, hG.tape.trans hb2.tape, hG.output.trans hb2.output, ?_, fun k h1 h2 h3 => ?_, fun k ⟨u, u1, u2⟩ => ?_⟩
    · have := hG.size
      simp only [World.size_setCell]
      omega
    · rw [Below.heap_setCell _ _ _ _ (by simpa using h2)]
      exact (hG.block k (by omega) (fun e => h3 ⟨v, cO, e.symm⟩)).trans (hb2.block k h1)
    · rw [World.cell?_setCell_same _ _ _ kO] at u1
      have e := Option.some.inj u1
      rw [← e] at u2
      rcases HA.out with h | h
      · exact Or.inl ⟨v, cO, h ▸ u2⟩
      · rw [h] at u2
        have := Option.some.inj u2
        exact Or.inr (by omega)
  · refine ⟨_, World.cell?_setCell_same _ _ _ kO, by simpa using kf, ?_⟩
    rw [flat_snoc]
    have h := ownsRow_setCell_below hown4.out (a := ⟨O, 0, none⟩) (Nat.lt_succ_self _) (.slice (some ⟨g, 0, none⟩) (ps.length + 1) cap)
    simpa using h
end Go.Proofs.Qxb6613536a
