import Derived.Test.Qxb6614051aNew
import Derived.Test.Qxb6614051aPlain
import Derived.Deep.LoopGhost
import Derived.BigQuiet
import Derived.Deep.QuietTactic
import Derived.Laws.CopyRow
import Derived.WalkLawsBesides
namespace Go.Proofs.Qxb6614051a
open Go.RowKit
set_option linter.unusedVariables false
set_option linter.unusedSimpArgs false

theorem Try.info2 : (Try.prog.info? 2).map (fun i => (i.zero, i.size, i.bytes)) = some (some (.int .i64 0), 1, 8) := by kernel_rfl
theorem Try.size2 : (Try.prog.info? 2).map (·.size) = some 1 := by kernel_rfl
theorem Try.info4 : (Try.prog.info? 4).map (fun i => (i.zero, i.size, i.bytes)) = some (some (.bool false), 1, 1) := by kernel_rfl

theorem setRow_alloc (w : World) (c cs : Array Value) (t : TypeId) : (w.alloc (.cells c t)).setRow w.heap.size cs = w.alloc (.cells cs t) := by
  show ({ w with heap := (w.heap.push (.cells c t)).modify w.heap.size _ } : World) = { w with heap := w.heap.push (.cells cs t) }
  congr 1
  apply Array.ext_getElem?
  intro i
  rw [Array.getElem?_modify, Array.getElem?_push, Array.getElem?_push]
  by_cases h : w.heap.size = i
  · subst h; simp
  · have h' : ¬ i = w.heap.size := fun e => h e.symm
    simp [h, h']

/-- The numbers as a row of cells. -/
def rowOf (z : List Int) (n : Nat) : Array Value := ((z.take n).map (Value.int .i64)).toArray

theorem copy_run (x : Addr) (n cap : Nat) (z : List Int) (w : World) (hnz : n ≤ z.length) (hc : ∀ i, i < z.length → w.cell? (x.add i) = some (.int .i64 (z.getD i 0))) (hx : 0 < n → x.block < w.heap.size) (ty : TypeId) :
    (Builtin.copy_ #[22, 22] ty #[.slice (some ⟨w.heap.size, 0, none⟩) n n, .slice (some x) n cap]).run Try.prog (w.alloc (.cells (madeCells #[.int .i64 0] n) 2)) = .ok (.int .i64 n) (w.alloc (.cells (rowOf z n) 2)) := by
  have h := run_copy_row (P := Try.prog) (w.alloc (.cells (madeCells #[.int .i64 0] n) 2)) 22 22 ty 2 w.heap.size 0 n n x n cap (madeCells #[.int .i64 0] n) 2 ((z.take n).map (Value.int .i64)) Try.underlying22 Try.size2
    (Go.Deep.blk_alloc_new _ _) (by simp; omega) (fun j v hj => ?_) (by rw [size_madeCells]; simp; omega) (fun v hv => ?_)
  · rw [h, setRow_alloc]
    have e1 : ((z.take n).map (Value.int .i64)).length = n := by simp; omega
    rw [e1]
    simp [goInt, rowOf, toList_madeCells_one, e1]
  · have hj' : j < n := by
      have := (List.getElem?_eq_some_iff.1 hj).1
      simp at this; omega
    rw [World.cell?_alloc_lt _ _ _ (by simp only [Addr.add]; split <;> exact hx (by omega)), hc j (by omega)]
    rw [← hj]
    simp [hj', List.getD_eq_getElem?_getD, List.getElem?_eq_getElem (show j < z.length by omega)]
  · simp only [List.mem_map] at hv
    obtain ⟨a, _, rfl⟩ := hv
    rfl

theorem row_cell (z : List Int) (n : Nat) (w : World) (hnz : n ≤ z.length) (k : Nat) (hk : k < n) : (w.alloc (.cells (rowOf z n) 2)).cell? ⟨w.heap.size, k, none⟩ = some (.int .i64 (z.getD k 0)) := by
  rw [World.cell?_alloc_new]
  simp [rowOf, hk, List.getD_eq_getElem?_getD, List.getElem?_eq_getElem (show k < z.length by omega)]

theorem wf_at (z : List Int) (hwf : ∀ v ∈ z, (Lit.int .i64 v).wf = true) (k : Nat) (hk : k < z.length) : (Lit.int .i64 (z.getD k 0)).wf = true := by
  rw [List.getD_eq_getElem?_getD, List.getElem?_eq_getElem hk]
  exact hwf _ (List.getElem_mem hk)

set_option maxHeartbeats 2000000 in
theorem main_some (x : Addr) (n cap : Nat) (z : List Int) (w : World) (hn : n ≤ 1024) (hnz : n ≤ z.length) (hc : ∀ i, i < z.length → w.cell? (x.add i) = some (.int .i64 (z.getD i 0))) (hwf : ∀ v ∈ z, (Lit.int .i64 v).wf = true) (hx : 0 < n → x.block < w.heap.size) :
    Calls Try.prog 3 #[.slice (some x) n cap] w fun e w' => e = .returned (.bool true) ∧ Below w.heap.size w w' := by
  have hmk := fun w => run_make_row' (P := Try.prog) 22 2 (.int .i64 0) 8 Try.underlying22 Try.info2 rfl .i64 .i64 n (by omega) (by omega) w
  have hcp := copy_run x n cap z w hnz hc hx
  go_enter Try.func3, Try.ntmps3
  go_wp2_with (go_at_call 4; go_in)
  clear hmk hcp
  refine (new_some w.heap.size n (fun k => z.getD k 0) _ (by omega) (by simp) (row_cell z n w hnz) (fun k hk => wf_at z hwf k (by omega))).mono ?_
  rintro e w2 ⟨qb, sb, E, rfl, hb2, hQ⟩
  clear hc hwf
  have hrc := row_cell z n w hnz
  generalize hd : (fun k => z.getD k 0) = d at hQ
  have hb1 : Below w.heap.size w (w.alloc (.cells (rowOf z n) 2)) := (Below.refl _ _).alloc (Nat.le_refl _) _
  have hz1 : (w.alloc (.cells (rowOf z n) 2)).heap.size = w.heap.size + 1 := World.size_alloc ..
  generalize hw1 : w.alloc (.cells (rowOf z n) 2) = w1 at hb1 hb2 hQ hrc hz1
  have Hz1 : Hid (w1.heap.size = w.heap.size + 1) := hz1
  have Hd : Hid ((fun k => z.getD k 0) = d) := hd
  clear hw1 hz1 hd
  go_wp2_with fail
  go_loopg [6] (n + 1) (fun g s6 wr => ∃ (a : Nat) (E p : Nat → Nat), s6 = .int .i64 a ∧ 1 ≤ a ∧ (a ≤ n ∨ a = 1) ∧ n + 1 - a ≤ g ∧ Below w1.heap.size w1 wr ∧ Que wr w1.heap.size qb sb n E p d ∧ Outer n d a p)
  case atStart => exact ⟨1, E, fun i => i, rfl, by omega, by omega, by omega, hb2, hQ, outer_start n d⟩
  case round =>
    obtain ⟨a, E, p, rfl, ha1, ha2, hg, hbr, hQr, hO⟩ := hrel
    by_cases hlt : a < n
    · go_wp2_with fail
      go_loopg [7] (a + 1) (fun g s7 wi => ∃ (b : Nat) (E p : Nat → Nat), s7 = .int .i64 b ∧ b + 1 ≤ g ∧ Below w1.heap.size w1 wi ∧ Que wi w1.heap.size qb sb n E p d ∧ Inner n d a b p)
      case atStart => exact ⟨a, E, p, rfl, Nat.le_refl _, hbr, hQr, inner_start hO hlt⟩
      case round =>
        obtain ⟨b, E, p, rfl, hg2, hbi, hQi, hI⟩ := hrel
        have hba := hI.ba
        clear hQr hbr hO
        cases b with
        | zero =>
          go_wp2_with fail
          go_roundg (n + 1 - (a + 1))
          case measure => omega
          case rel => exact ⟨a + 1, E, p, by go_num, by omega, by omega, by omega, hbi, hQi, inner_done hI (fun h => absurd h (Nat.lt_irrefl _))⟩
        | succ b =>
          have han := hI.an
          have hl := less_any hQi (by omega) (i := b + 1) (j := b) (by omega) (by omega)
          have eb : ((b + 1 : Nat) : Int) = (b : Int) + 1 := by omega
          rw [eb] at hl
          by_cases hd : d (p (b + 1)) < d (p b)
          · rw [decide_eq_true hd] at hl
            have Hd2 : Hid (d (p (b + 1)) < d (p b)) := hd
            clear hd eb
            go_wp2_with fail
            refine hl.mono ?_
            rintro e wl ⟨rfl, hbl⟩
            have hQl := hQi.below hbl
            have hbl2 := hbi.trans (hbl.mono hbi.size)
            have hs := swap_any hQl (i := b + 1) (j := b) (by omega) (by omega) (by omega)
            have eb : ((b + 1 : Nat) : Int) = (b : Int) + 1 := by omega
            rw [eb] at hs
            clear hl hQi hbi hbl eb
            go_wp2_with fail
            refine hs.mono ?_
            rintro e ws ⟨rfl, hbs, _, hQs⟩
            clear hs
            go_wp2_with fail
            go_roundg (b + 1)
            case measure => omega
            case rel => exact ⟨b, _, _, rfl, Nat.le_refl _, hbl2.trans hbs, hQs, inner_step hI (Nat.succ_pos _) Hd2.out⟩
          · rw [decide_eq_false hd] at hl
            have Hd2 : Hid (¬ d (p (b + 1)) < d (p b)) := hd
            clear hd eb
            go_wp2_with fail
            refine hl.mono ?_
            rintro e wl ⟨rfl, hbl⟩
            clear hl
            have hQl := hQi.below hbl
            have hbl2 := hbi.trans (hbl.mono hbi.size)
            go_wp2_with fail
            go_roundg (n + 1 - (a + 1))
            case measure => omega
            case rel => exact ⟨a + 1, E, p, by go_num, by omega, by omega, by omega, hbl2, hQl, inner_done hI (fun _ => Int.not_lt.2 Hd2.out)⟩
    · have hmk := fun w => run_make_row' (P := Try.prog) 28 4 (.bool false) 1 Try.underlying28 Try.info4 rfl .i64 .i64 n (by omega) (by omega) w
      go_wp2_with fail
      clear hmk
      obtain ⟨w3, rfl⟩ : ∃ w3, w3 = wr := ⟨_, rfl⟩
      have hperm := hO.perm
      have hsort : Hid (∀ x y, x < y → y < n → lt d (p x) (p y)) := fun x y h1 h2 => hO.sorted x y h1 (by omega) h2
      have hdc : Hid (∀ k, k < n → w1.cell? ⟨w.heap.size, k, none⟩ = some (.int .i64 (d k))) := fun k hk => by rw [← Hd.out]; exact hrc k hk
      clear hrc hO hb2 hQ
      go_loopg [9] (n + 1) (fun g s9 wx => ∃ k : Nat, s9 = .int .i64 k ∧ k ≤ n ∧ n - k ≤ g ∧ Below w3.heap.size w3 wx ∧ wx.rowIs w3.heap.size 4 n (fun s => .bool (seenF p k s)))
      case atStart => exact ⟨0, rfl, Nat.zero_le _, by omega, (Below.refl _ _).alloc (Nat.le_refl _) _, (World.rowIs_made w3 (.bool false) n 4).congr (fun i _ => by rw [seen_zero])⟩
      case round =>
        obtain ⟨k, rfl, hk, hg2, hbt, hrow⟩ := hrel
        by_cases hkn : k < n
        · have hQt := hQr.below hbt
          have hpk := hperm.1 k hkn
          have hsq := seq_any hQt hkn
          have cell : wr.cell? ⟨w3.heap.size, p k, none⟩ = some (.bool false) := (hrow.cell hpk).trans (by rw [seen_new hperm hkn])
          have fz := hrow.frozen (p k)
          have pk1 : (p k : Int) < (n : Int) := by omega
          have hbv : Below w3.heap.size w3 (wr.setCell ⟨w3.heap.size, p k, none⟩ (.bool true)) := hbt.setCell (p := ⟨w3.heap.size, p k, none⟩) (Nat.le_refl _) _
          have hQv := hQr.below hbv
          have hid := ind_any hQv hkn
          have hrv : Hid ((wr.setCell ⟨w3.heap.size, p k, none⟩ (.bool true)).rowIs w3.heap.size 4 n (fun s => .bool (seenF p (k + 1) s))) := (hrow.set (p k) (.bool true)).congr fun i _ => by rw [seen_succ]; split <;> rfl
          clear hrow hbt hQt
          cases k with
          | zero =>
            go_wp2_with fail
            refine hsq.mono ?_
            rintro e wr ⟨rfl, rfl⟩
            go_wp2_with fail
            refine hid.mono ?_
            rintro e w' ⟨rfl, rfl⟩
            go_wp2_with fail
            go_roundg (n - 1)
            case measure => omega
            case rel => exact ⟨1, rfl, by omega, by omega, hbv, hrv.out⟩
          | succ k =>
            have hsp := seq_any hQv (i := k) (by omega)
            have hpp := hperm.1 k (by omega)
            have ek : ((k + 1 : Nat) : Int) = (k : Int) + 1 := by omega
            rw [ek] at hsq hid
            clear ek
            have hzz := hbr.size
            have c1 : (wr.setCell ⟨w3.heap.size, p (k + 1), none⟩ (.bool true)).cell? ⟨w.heap.size, p (k + 1), none⟩ = some (.int .i64 (d (p (k + 1)))) :=
              (hbv.cell (by have := Hz1.out; show w.heap.size < _; omega)).trans ((hbr.cell (by have := Hz1.out; show w.heap.size < _; omega)).trans (hdc.out _ hpk))
            have c2 : (wr.setCell ⟨w3.heap.size, p (k + 1), none⟩ (.bool true)).cell? ⟨w.heap.size, p k, none⟩ = some (.int .i64 (d (p k))) :=
              (hbv.cell (by have := Hz1.out; show w.heap.size < _; omega)).trans ((hbr.cell (by have := Hz1.out; show w.heap.size < _; omega)).trans (hdc.out _ hpp))
            have hlt2x : d (p k) < d (p (k + 1)) ∨ (d (p k) = d (p (k + 1)) ∧ p k < p (k + 1)) := hsort.out k (k + 1) (by omega) hkn
            have pp1 : (p k : Int) < (n : Int) := by omega
            have pp0 : (0 : Int) ≤ (p k : Int) := by omega
            have pk0 : (0 : Int) ≤ (p (k + 1) : Int) := by omega
            go_wp2_with fail
            refine hsq.mono ?_
            rintro e wr ⟨rfl, rfl⟩
            go_wp2_with fail
            refine hid.mono ?_
            rintro e w' ⟨rfl, rfl⟩
            clear hsq hid
            go_wp2_with fail
            refine hsp.mono ?_
            rintro e w' ⟨rfl, rfl⟩
            clear hsp
            generalize hwv : wr.setCell ⟨w3.heap.size, p (k + 1), none⟩ (.bool true) = wv at hbv hQv hrv c1 c2 ⊢
            clear hwv cell fz
            generalize hd1 : d (p k) = y1 at c2 hlt2x
            generalize hd2 : d (p (k + 1)) = y2 at c1 hlt2x
            clear hd1 hd2
            have hle : y1 ≤ y2 := by omega
            go_wp2_with fail
            go_quiet (fail)
            go_wp2_with fail
            by_cases heq : y1 = y2
            · have hpl : (p k : Int) < (p (k + 1) : Int) := by omega
              have he : (y1 == y2) = true := by simpa using heq
              clear heq hlt2x
              go_quiet (fail)
              go_wp2_with fail
              go_roundg (n - (k + 2))
              case measure => omega
              case rel => exact ⟨k + 2, by go_num, by omega, by omega, below_drewN hbv _, hrv.out.of_block (by rw [World.heap_drewN])⟩
            · have he : (y1 == y2) = false := by simpa using heq
              clear heq hlt2x
              go_quiet (fail)
              go_wp2_with fail
              go_roundg (n - (k + 2))
              case measure => omega
              case rel => exact ⟨k + 2, by go_num, by omega, by omega, below_drewN hbv _, hrv.out.of_block (by rw [World.heap_drewN])⟩
        · go_wp2
          go_ret
          exact ⟨rfl, hb1.trans ((hbr.mono hb1.size).trans (hbt.mono (by have := hbr.size; have := hb1.size; omega)))⟩
end Go.Proofs.Qxb6614051a
