import Derived.Test.Qxb6613536aBuild
import Derived.BigRegion
namespace Go.Proofs.Qxb6613536a
open Go.RowKit
set_option linter.unusedVariables false
set_option linter.unusedSimpArgs false

theorem info40 : ∃ i, Try.prog.info? 40 = some i ∧ i.zero = some (.agg #[.int .i64 0, .int .i64 0, .int .i64 0, .int .i64 0]) ∧ i.size = 4 ∧ i.bytes = 32 := by
  have h : (Try.prog.info? 40).map (fun i => (i.zero, i.size, i.bytes)) = some (some (.agg #[.int .i64 0, .int .i64 0, .int .i64 0, .int .i64 0]), 4, 32) := by kernel_rfl
  obtain ⟨i, hi, h2⟩ := Option.map_eq_some_iff.1 h
  simp only [Prod.mk.injEq] at h2
  exact ⟨i, hi, h2⟩

/-- n pieces at zero. -/
def zeros (n : Nat) : Array Value := madeCells #[.int .i64 0, .int .i64 0, .int .i64 0, .int .i64 0] (n * 4)

theorem make38 (n : Nat) (hn : n ≤ 1024) (w : World) : (Instr.makeSlice 38 (.int .i64 (n : Int)) (.int .i64 (n : Int))).run Try.prog w = .ok (.slice (some ⟨w.heap.size, 0, none⟩) n n) (w.alloc (.cells (zeros n) 40)) := by
  obtain ⟨i, hi, hz, hs, hb⟩ := info40
  have h := run_make (P := Try.prog) w 38 40 i _ Try.underlying38 hi hz .i64 .i64 n n (by omega) (Int.le_refl _) (by rw [hb]; omega) (by omega)
  rw [h, hs]
  rfl

theorem zeros_row (n : Nat) (w : World) : (w.alloc (.cells (zeros n) 40)).rowIs w.heap.size 40 (n * 4) (fun _ => .int .i64 0) := by
  have hs : (zeros n).size = n * 4 := size_madeCells _ _
  have h := World.rowIs_alloc w (zeros n) 40 (fun _ => .int .i64 0) (fun i hi => by
    rw [hs] at hi
    unfold zeros madeCells
    rw [Array.getElem?_map, Array.getElem?_range, if_pos hi]
    have : i % 4 < 4 := Nat.mod_lt _ (by omega)
    show some (#[Value.int .i64 0, Value.int .i64 0, Value.int .i64 0, Value.int .i64 0][i % 4]!) = _
    match h : i % 4, this with
    | 0, _ => rfl
    | 1, _ => rfl
    | 2, _ => rfl
    | 3, _ => rfl)
  rw [hs] at h
  exact h

/-- The first k pieces stand. -/
structure Pcs (D : Dat) (k : Nat) (pf : Nat → Value) : Prop where
  p0 : ∀ i, i < k → pf (i * 4) = .int .i64 (D.fl i)
  p1 : ∀ i, i < k → pf (i * 4 + 1) = .int .i64 (D.po i)
  p2 : ∀ i, i < k → pf (i * 4 + 2) = .int .i64 (D.sz i)
  p3 : ∀ i, i < k → pf (i * 4 + 3) = .int .i64 (D.aa i)

theorem Pcs.step {D : Dat} {k : Nat} {pf : Nat → Value} (h : Pcs D k pf) :
    Pcs D (k + 1) (fun j => if j = k * 4 + 3 then .int .i64 (D.aa k) else if j = k * 4 + 2 then .int .i64 (D.sz k) else if j = k * 4 + 1 then .int .i64 (D.po k) else if j = k * 4 then .int .i64 (D.fl k) else pf j) := by
  refine ⟨fun i hi => ?_, fun i hi => ?_, fun i hi => ?_, fun i hi => ?_⟩
  · by_cases c : i = k
    · subst c; rw [if_neg (by omega), if_neg (by omega), if_neg (by omega), if_pos rfl]
    · rw [if_neg (by omega), if_neg (by omega), if_neg (by omega), if_neg (by omega)]; exact h.p0 i (by omega)
  · by_cases c : i = k
    · subst c; rw [if_neg (by omega), if_neg (by omega), if_pos rfl]
    · rw [if_neg (by omega), if_neg (by omega), if_neg (by omega), if_neg (by omega)]; exact h.p1 i (by omega)
  · by_cases c : i = k
    · subst c; rw [if_neg (by omega), if_pos rfl]
    · rw [if_neg (by omega), if_neg (by omega), if_neg (by omega), if_neg (by omega)]; exact h.p2 i (by omega)
  · by_cases c : i = k
    · subst c; rw [if_pos rfl]
    · rw [if_neg (by omega), if_neg (by omega), if_neg (by omega), if_neg (by omega)]; exact h.p3 i (by omega)

set_option maxRecDepth 100000 in
set_option maxHeartbeats 1000000 in
theorem build_any {D : Dat} (ok : Ok D) (a0 a1 a2 a3 a4 : Option Addr) (c0 c1 c2 c3 c4 : Nat) (lo hi : Nat) (w : World) (hlo : lo ≤ hi) (hhi : hi ≤ D.n)
    (r0 : Rd w a0 D.n D.fl) (r1 : Rd w a1 D.n D.po) (r2 : Rd w a2 D.n D.sz) (r3 : Rd w a3 D.n D.aa) (r4 : Rd w a4 D.ns D.st) (hnil : a4 = none → D.ns = 0 ∧ c4 = 0) :
    Calls Try.prog 8 #[.slice a0 D.n c0, .slice a1 D.n c1, .slice a2 D.n c2, .slice a3 D.n c3, .slice a4 D.ns c4, .int .i64 lo, .int .i64 hi] w fun r w' =>
      ∃ (X P En : Nat) (sv : Value) (e : Nat → Int), r = .returned (.agg #[.pointer (some ⟨X, 0, none⟩), sv]) ∧ Below w.heap.size w w' ∧ Lst w' D w'.heap.size X P En sv e ∧ ∀ f, EndsOK D e f lo hi := by
  have hnb := ok.nb
  have hmk := make38 D.n hnb
  have hmk2 := fun w => run_make_row' (P := Try.prog) 23 2 (.int .i64 0) 8 Try.underlying23 Try.info2 rfl .i64 .i64 D.n (by omega) (by omega) w
  go_enter Try.func8, Try.ntmps8
  go_wp2_with fail
  clear hmk hmk2
  have q0 : Hid (((w.alloc (Obj.cells #[Value.pointer none, Value.slice none 0 0] 29)).alloc (Obj.cells (zeros D.n) 40)).alloc (Obj.cells (madeCells #[Value.int IntKind.i64 0] D.n) 2) |>.rowIs w.heap.size 29 2 (fun i => #[Value.pointer none, Value.slice none 0 0].getD i undef)) :=
    (((World.rowIs_alloc w #[Value.pointer none, Value.slice none 0 0] 29 (fun i => #[Value.pointer none, Value.slice none 0 0].getD i undef) (fun i hi => by
      rw [Array.getD_eq_getD_getElem?, Array.getElem?_eq_getElem hi]; rfl)).alloc _).alloc _)
  have q1 : Hid (((w.alloc (Obj.cells #[Value.pointer none, Value.slice none 0 0] 29)).alloc (Obj.cells (zeros D.n) 40)).alloc (Obj.cells (madeCells #[Value.int IntKind.i64 0] D.n) 2) |>.rowIs (w.heap.size + 1) 40 (D.n * 4) (fun _ => .int .i64 0)) := by
    have h := (zeros_row D.n (w.alloc (Obj.cells #[Value.pointer none, Value.slice none 0 0] 29))).alloc (Obj.cells (madeCells #[Value.int IntKind.i64 0] D.n) 2)
    rw [World.size_alloc] at h
    exact h
  have q2 : Hid (((w.alloc (Obj.cells #[Value.pointer none, Value.slice none 0 0] 29)).alloc (Obj.cells (zeros D.n) 40)).alloc (Obj.cells (madeCells #[Value.int IntKind.i64 0] D.n) 2) |>.rowIs (w.heap.size + 1 + 1) 2 D.n (fun _ => .int .i64 0)) := by
    have h := World.rowIs_made ((w.alloc (Obj.cells #[Value.pointer none, Value.slice none 0 0] 29)).alloc (Obj.cells (zeros D.n) 40)) (.int .i64 0) D.n 2
    rw [World.size_alloc, World.size_alloc] at h
    exact h
  have hb0 : Hid (Below w.heap.size w (((w.alloc (Obj.cells #[Value.pointer none, Value.slice none 0 0] 29)).alloc (Obj.cells (zeros D.n) 40)).alloc (Obj.cells (madeCells #[Value.int IntKind.i64 0] D.n) 2))) :=
    (((Below.refl _ _).alloc (Nat.le_refl _) _).alloc (by simp) _).alloc (by simp; omega) _
  have R0 : Hid _ := r0
  have R1 : Hid _ := r1
  have R2 : Hid _ := r2
  have R3 : Hid _ := r3
  have R4 : Hid _ := r4
  clear r0 r1 r2 r3 r4
  go_loopg [18] (D.n + 1) (fun g s18 wr => ∃ (k : Nat) (pf : Nat → Value) (e : Nat → Int), s18 = .int .i64 k ∧ k ≤ D.n ∧ D.n - k + 1 ≤ g ∧ Hid (Below w.heap.size w wr) ∧ Hid (wr.rowIs w.heap.size 29 2 (fun i => #[Value.pointer none, Value.slice none 0 0].getD i undef)) ∧
      Hid (wr.rowIs (w.heap.size + 1) 40 (D.n * 4) pf) ∧ Hid (Pcs D k pf) ∧ Hid (wr.rowIs (w.heap.size + 1 + 1) 2 D.n (fun i => .int .i64 (e i))))
  case atStart => exact ⟨0, fun _ => .int .i64 0, fun _ => 0, rfl, Nat.zero_le _, by omega, hb0.out, q0.out, q1.out, ⟨fun i hi => absurd hi (Nat.not_lt_zero _), fun i hi => absurd hi (Nat.not_lt_zero _), fun i hi => absurd hi (Nat.not_lt_zero _), fun i hi => absurd hi (Nat.not_lt_zero _)⟩, q2.out⟩
  case round =>
    obtain ⟨k, pf, e, rfl, hk, hg, hB, hRr, hRp, hPc, hRe⟩ := hrel
    clear q0 q1 q2 hb0
    by_cases hlt : k < D.n
    · have hn0 : ¬ D.n = 0 := by omega
      obtain ⟨b0, o0, rfl, p0⟩ := R0.out.resolve_left hn0
      obtain ⟨b1, o1, rfl, p1⟩ := R1.out.resolve_left hn0
      obtain ⟨b2, o2, rfl, p2⟩ := R2.out.resolve_left hn0
      obtain ⟨b3, o3, rfl, p3⟩ := R3.out.resolve_left hn0
      have kb : (k : Int) < (D.n : Int) := by omega
      have kz : (0 : Int) ≤ (k : Int) := by omega
      have SK : Hid (∀ w', Below w.heap.size w w' → Below w.heap.size w w' ∧ w'.cell? ⟨b0, o0 + k, none⟩ = some (.int .i64 (D.fl k)) ∧ w'.cell? ⟨b1, o1 + k, none⟩ = some (.int .i64 (D.po k)) ∧ w'.cell? ⟨b2, o2 + k, none⟩ = some (.int .i64 (D.sz k)) ∧ w'.cell? ⟨b3, o3 + k, none⟩ = some (.int .i64 (D.aa k))) :=
        fun w' h => ⟨h, keepC h (p0 k hlt), keepC h (p1 k hlt), keepC h (p2 k hlt), keepC h (p3 k hlt)⟩
      clear p0 p1 p2 p3
      go_wp2_with fail
      go_region_held3 (fun w' => Below w.heap.size w w' ∧ w'.cell? ⟨b0, o0 + k, none⟩ = some (.int .i64 (D.fl k)) ∧ w'.cell? ⟨b1, o1 + k, none⟩ = some (.int .i64 (D.po k)) ∧ w'.cell? ⟨b2, o2 + k, none⟩ = some (.int .i64 (D.sz k)) ∧ w'.cell? ⟨b3, o3 + k, none⟩ = some (.int .i64 (D.aa k)))
        (first | exact SK.out _ hB.out.drew | exact SK.out _ hBw | exact SK.out _ ((((hBw.setCell (p := ⟨w.heap.size + 1, k * 4, none⟩) (Nat.le_succ _) _).setCell (p := ⟨w.heap.size + 1, k * 4 + 1, none⟩) (Nat.le_succ _) _).setCell (p := ⟨w.heap.size + 1, k * 4 + 2, none⟩) (Nat.le_succ _) _).setCell (p := ⟨w.heap.size + 1, k * 4 + 3, none⟩) (Nat.le_succ _) _))
        (first
          | (go_at_call 12; refine (piece_any _ _ _ _ _).mono ?_; rintro r w' ⟨rfl, hlast⟩; have hBw : Below w.heap.size w w' := hB.out.drew.trans (hlast.mono hB.out.size); have hbr : Below wr.heap.size wr w' := (Below.drew (Below.refl _ _)).trans hlast; have hRp' := hRp.out.of_block (hbr.block _ hRp.out.lt); have x0 := hRp'.cell (i := k * 4) (by omega); have x1 := hRp'.cell (i := k * 4 + 1) (by omega); have x2 := hRp'.cell (i := k * 4 + 2) (by omega); have x3 := hRp'.cell (i := k * 4 + 3) (by omega); have z0 := hRp'.frozen (k * 4); have z1 := hRp'.frozen (k * 4 + 1); have z2 := hRp'.frozen (k * 4 + 2); have z3 := hRp'.frozen (k * 4 + 3); have HRp' : Hid (w'.rowIs (w.heap.size + 1) 40 (D.n * 4) pf) := hRp'; clear hRp'))
      go_split_ands
      obtain ⟨w7, hw7⟩ : ∃ w7, w7 = (((w'.setCell { block := w.heap.size + 1, off := k * 4 } (Value.int IntKind.i64 (D.fl k))).setCell { block := w.heap.size + 1, off := k * 4 + 1 } (Value.int IntKind.i64 (D.po k))).setCell { block := w.heap.size + 1, off := k * 4 + 2 } (Value.int IntKind.i64 (D.sz k))).setCell { block := w.heap.size + 1, off := k * 4 + 3 } (Value.int IntKind.i64 (D.aa k)) := ⟨_, rfl⟩
      rw [← hw7]
      have hB7 : Below w.heap.size w w7 := by
        rw [hw7]
        exact (((hBw.setCell (p := ⟨w.heap.size + 1, k * 4, none⟩) (Nat.le_succ _) _).setCell (p := ⟨w.heap.size + 1, k * 4 + 1, none⟩) (Nat.le_succ _) _).setCell (p := ⟨w.heap.size + 1, k * 4 + 2, none⟩) (Nat.le_succ _) _).setCell (p := ⟨w.heap.size + 1, k * 4 + 3, none⟩) (Nat.le_succ _) _
      have hRp7 : Hid (w7.rowIs (w.heap.size + 1) 40 (D.n * 4) (fun j => if j = k * 4 + 3 then .int .i64 (D.aa k) else if j = k * 4 + 2 then .int .i64 (D.sz k) else if j = k * 4 + 1 then .int .i64 (D.po k) else if j = k * 4 then .int .i64 (D.fl k) else pf j)) := by
        rw [hw7]
        exact ((((HRp'.out.set (k * 4) _).set (k * 4 + 1) _).set (k * 4 + 2) _).set (k * 4 + 3) _)
      have hRr7 : Hid (w7.rowIs w.heap.size 29 2 (fun i => #[Value.pointer none, Value.slice none 0 0].getD i undef)) := by
        rw [hw7]
        exact (((((hRr.out.of_block (hbr.block _ hRr.out.lt)).setOther (a := ⟨w.heap.size + 1, k * 4, none⟩) (by show w.heap.size ≠ w.heap.size + 1; omega) _).setOther (a := ⟨w.heap.size + 1, k * 4 + 1, none⟩) (by show w.heap.size ≠ w.heap.size + 1; omega) _).setOther (a := ⟨w.heap.size + 1, k * 4 + 2, none⟩) (by show w.heap.size ≠ w.heap.size + 1; omega) _).setOther (a := ⟨w.heap.size + 1, k * 4 + 3, none⟩) (by show w.heap.size ≠ w.heap.size + 1; omega) _)
      have hRe7 : w7.rowIs (w.heap.size + 1 + 1) 2 D.n (fun i => .int .i64 (e i)) := by
        rw [hw7]
        exact (((((hRe.out.of_block (hbr.block _ hRe.out.lt)).setOther (a := ⟨w.heap.size + 1, k * 4, none⟩) (by show w.heap.size + 1 + 1 ≠ w.heap.size + 1; omega) _).setOther (a := ⟨w.heap.size + 1, k * 4 + 1, none⟩) (by show w.heap.size + 1 + 1 ≠ w.heap.size + 1; omega) _).setOther (a := ⟨w.heap.size + 1, k * 4 + 2, none⟩) (by show w.heap.size + 1 + 1 ≠ w.heap.size + 1; omega) _).setOther (a := ⟨w.heap.size + 1, k * 4 + 3, none⟩) (by show w.heap.size + 1 + 1 ≠ w.heap.size + 1; omega) _)
      obtain ⟨_, _, g1, g2, _⟩ := SK.out w7 hB7
      have g3 := hRe7.cell hlt
      have g4 := hRe7.frozen k
      have e1 := ok.enM k hlt
      have e2 := ok.po0 k hlt
      have e3 := ok.sz1 k hlt
      have HRe7 : Hid (w7.rowIs (w.heap.size + 1 + 1) 2 D.n (fun i => .int .i64 (e i))) := hRe7
      have HB7 : Hid (Below w.heap.size w w7) := hB7
      have hPc2 : Hid (Pcs D (k + 1) _) := hPc.out.step
      clear hw7 hRe7 hB7 HRp' hBw hbr hlast x0 x1 x2 x3 z0 z1 z2 z3 hB hRr hRp hPc hRe SK
      go_wp2_with fail
      go_region
      go_wp2_with fail
      go_roundg (D.n - (k + 1) + 1)
      case measure => omega
      case rel =>
        refine ⟨k + 1, _, fun i => if i = k then D.po k + D.sz k else e i, by go_num, by omega, Nat.le_refl _, ?_, ?_, ?_, hPc2.out, ?_⟩
        · exact (HB7.out.setCell (p := ⟨w.heap.size + 1 + 1, k, none⟩) (by show w.heap.size ≤ w.heap.size + 1 + 1; omega) _).drew
        · exact (hRr7.out.setOther (a := ⟨w.heap.size + 1 + 1, k, none⟩) (by show w.heap.size ≠ w.heap.size + 1 + 1; omega) _).drew
        · exact (hRp7.out.setOther (a := ⟨w.heap.size + 1 + 1, k, none⟩) (by show w.heap.size + 1 ≠ w.heap.size + 1 + 1; omega) _).drew
        · refine ((HRe7.out.set k (.int .i64 (D.po k + D.sz k))).drew).congr fun i _ => ?_
          by_cases c : i = k
          · simp [c]
          · simp [c]
    · obtain rfl : k = D.n := by omega
      have lowb : Hid (∀ (a : Option Addr) (f : Nat → Int), Rd w a D.n f → 0 < D.n → ∀ b o, a = some ⟨b, o, none⟩ → b < w.heap.size) := fun a f hr hn b o ea => by
        obtain ⟨b', o', ea', hc⟩ := hr.resolve_left (by omega)
        rw [ea] at ea'
        have e1 := Option.some.inj ea'
        injection e1 with e1
        subst e1
        exact lt_of_cell (hc 0 hn)
      have hends := ends_any ok a1 a2 c1 c2 (w.heap.size + 1 + 1) (fun hn b o ea => by have := lowb.out a1 D.po R1.out hn b o ea; omega) (fun hn b o ea => by have := lowb.out a2 D.sz R2.out hn b o ea; omega) (hi - lo) lo hi wr e (Nat.le_refl _) hlo hhi (Rd.kept R1.out fun b o _ hb => hB.out.block b hb) (Rd.kept R2.out fun b o _ hb => hB.out.block b hb) hRe.out
      go_wp2_with fail
      refine hends.mono ?_
      rintro r w1 ⟨x, e', rfl, _, hE, _, hgr, hRe1⟩
      clear hends
      have hs1 := hgr.size
      have kept : Hid (∀ b, b < wr.heap.size → b ≠ w.heap.size + 1 + 1 → w1.heap[b]? = wr.heap[b]?) := fun b h1 h2 => hgr.block b h1 (by simpa using h2)
      have hB1 : Hid (Below w.heap.size w w1) := ⟨hgr.os.trans hB.out.os, hgr.tape.trans hB.out.tape, hgr.output.trans hB.out.output, Nat.le_trans hB.out.size hs1, fun b hb => (kept.out b (Nat.lt_of_lt_of_le hb hB.out.size) (by omega)).trans (hB.out.block b hb)⟩
      have hRp1 : Hid (w1.rowIs (w.heap.size + 1) 40 (D.n * 4) pf) := hRp.out.of_block (kept.out _ hRp.out.lt (by omega))
      have hRr1 : Hid (w1.rowIs w.heap.size 29 2 (fun i => #[Value.pointer none, Value.slice none 0 0].getD i undef)) := hRr.out.of_block (kept.out _ hRr.out.lt (by omega))
      have HE : Hid (∀ f, EndsOK D e' f lo hi) := hE
      have HRe1 : Hid (w1.rowIs (w.heap.size + 1 + 1) 2 D.n (fun i => .int .i64 (e' i))) := hRe1
      have hcl := clone_any a4 D.ns c4 D.st w1 ok.nsb (Rd.kept R4.out fun b o _ hb => hB1.out.block b hb) hnil
      clear hgr hE hRe1 hRp hRr hRe hB kept hs1 R0 R1 R2 R3 R4 lowb
      go_wp2_with fail
      refine hcl.mono ?_
      rintro r w2 ⟨sv, rfl, hb2, hst, hso⟩
      clear hcl
      obtain ⟨sa, sl, sc, rfl⟩ : ∃ sa sl sc, sv = .slice sa sl sc := by
        rcases hst with ⟨rfl, _⟩ | ⟨S, rfl, _⟩
        · exact ⟨_, _, _, rfl⟩
        · exact ⟨_, _, _, rfl⟩
      have HB2 : Hid (Below w1.heap.size w1 w2) := hb2
      have HST : Hid (Sts w2 (.slice sa sl sc) D.ns D.st) := hst
      have HSO : Hid (∀ k, (Value.slice sa sl sc).ownBlock = some k → k < w2.heap.size) := hso
      clear hb2 hst hso
      go_wp2_with fail
      refine (listing_any (w.heap.size + 1) (w.heap.size + 1 + 1) D.n sa sl sc w2).mono ?_
      rintro r w3 ⟨X, rfl, hb3, x0, x1⟩
      have hb13 : Below w1.heap.size w1 w3 := keepB HB2.out hb3
      have hRr3 := hRr1.out.of_block (hb13.block _ hRr1.out.lt)
      have y0 := hRr3.cell (i := 0) (by omega)
      have y1 := hRr3.cell (i := 1) (by omega)
      have f0 := hRr3.frozen 0
      have f1 := hRr3.frozen 1
      have HX : Hid (Below w2.heap.size w2 w3) := hb3
      have HX0 : Hid (w3.cell? ⟨X, 0, none⟩ = some (.slice (some ⟨w.heap.size + 1, 0, none⟩) D.n D.n)) := x0
      have HX1 : Hid (w3.cell? ⟨X, 1, none⟩ = some (.slice (some ⟨w.heap.size + 1 + 1, 0, none⟩) D.n D.n)) := x1
      have H13 : Hid (Below w1.heap.size w1 w3) := hb13
      clear hb3 hb13 x0 x1 hRr3
      go_wp2_with fail
      have y0' : w3.cell? ⟨w.heap.size, 0, none⟩ = some (.pointer none) := y0
      obtain ⟨W, hW⟩ : ∃ W, W = (w3.setCell { block := w.heap.size, off := 0 } (Value.pointer (some { block := X, off := 0 }))).setCell { block := w.heap.size, off := 1 } (Value.slice sa sl sc) := ⟨_, rfl⟩
      have t0 : W.cell? ⟨w.heap.size, 0, none⟩ = some (.pointer (some ⟨X, 0, none⟩)) := by
        rw [hW, World.cell?_setCell_other _ _ _ _ (by simp)]
        exact World.cell?_setCell_same _ _ _ y0
      have t1 : W.cell? ⟨w.heap.size, 1, none⟩ = some (.slice sa sl sc) := by
        rw [hW]
        exact World.cell?_setCell_same _ _ _ (by rw [World.cell?_setCell_other _ _ _ _ (by simp)]; exact y1)
      have hblk : ∀ b, b ≠ w.heap.size → W.heap[b]? = w3.heap[b]? := fun b hb => by
        rw [hW, Below.heap_setCell _ _ _ _ (by simpa using hb), Below.heap_setCell _ _ _ _ (by simpa using hb)]
      have hsz : W.heap.size = w3.heap.size := by rw [hW]; simp
      have hBW : Below w.heap.size w W := by
        rw [hW]
        exact ((hB1.out.trans (H13.out.mono hB1.out.size)).setCell (p := ⟨w.heap.size, 0, none⟩) (Nat.le_refl _) _).setCell (p := ⟨w.heap.size, 1, none⟩) (Nat.le_refl _) _
      rw [← hW]
      clear hW
      have hXne : X ≠ w.heap.size := fun e => by
        have h := HX0.out
        rw [e, y0'] at h
        cases h
      have hXc : ∀ o, W.cell? ⟨X, o, none⟩ = w3.cell? ⟨X, o, none⟩ := fun o => World.cell?_of_block (w := w3) (a := ⟨X, o, none⟩) (hblk X hXne)
      have hP3 := (hRp1.out.of_block (H13.out.block _ hRp1.out.lt)).of_block (w' := W) (hblk _ (by omega))
      have hE3 := (HRe1.out.of_block (H13.out.block _ HRe1.out.lt)).of_block (w' := W) (hblk _ (by omega))
      have hS : Sts W (.slice sa sl sc) D.ns D.st := by
        rcases HST.out with h | ⟨S, e, h⟩
        · exact Or.inl h
        · refine Or.inr ⟨S, e, fun k hk => ?_⟩
          have h3 : ∀ k, k < D.ns → w3.cell? ⟨S, k, none⟩ = some (.int .i64 (D.st k)) := fun k hk => keepC HX.out (h k hk)
          have hne : S ≠ w.heap.size := fun e => by
            have h := h3 0 (by omega)
            rw [e, y0'] at h
            cases h
          exact (World.cell?_of_block (w := w3) (a := ⟨S, k, none⟩) (hblk S hne)).trans (h3 k hk)
      refine bodyPost_ret (v := .agg #[.pointer (some ⟨X, 0, none⟩), .slice sa sl sc]) (by simp [results, Try.results8, go_sem, t0, t1]) rfl ⟨X, w.heap.size + 1, w.heap.size + 1 + 1, .slice sa sl sc, e', rfl, hBW, ?_, HE.out⟩
      exact { xo := lt_of_cell ((hXc 0).trans HX0.out), po := hP3.lt, eo := hE3.lt, so := fun k hk => by
                rw [hsz]; exact Nat.lt_of_lt_of_le (HSO.out k hk) HX.out.size
              x0 := (hXc 0).trans HX0.out, x1 := (hXc 1).trans HX1.out
              p0 := fun i hi => (hP3.cell (by omega)).trans (by rw [hPc.out.p0 i hi])
              p1 := fun i hi => (hP3.cell (by omega)).trans (by rw [hPc.out.p1 i hi])
              p2 := fun i hi => (hP3.cell (by omega)).trans (by rw [hPc.out.p2 i hi])
              p3 := fun i hi => (hP3.cell (by omega)).trans (by rw [hPc.out.p3 i hi])
              en := fun i hi => hE3.cell hi
              st := hS }
end Go.Proofs.Qxb6613536a
