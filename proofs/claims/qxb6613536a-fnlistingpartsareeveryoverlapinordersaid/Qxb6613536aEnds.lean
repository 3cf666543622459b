import Derived.Test.Qxb6613536aLParts
namespace Go.Proofs.Qxb6613536a
open Go.RowKit
set_option linter.unusedVariables false
set_option linter.unusedSimpArgs false

/-- A slice of n numbers that can be read: nothing is asked where n is 0. -/
def Rd (w : World) (a : Option Addr) (n : Nat) (f : Nat → Int) : Prop :=
  n = 0 ∨ ∃ b o, a = some ⟨b, o, none⟩ ∧ ∀ i, i < n → w.cell? ⟨b, o + i, none⟩ = some (.int .i64 (f i))

/-- A slice whose cells lie in blocks that a change leaves alone. -/
theorem Rd.kept {w w' : World} {a : Option Addr} {n : Nat} {f : Nat → Int} (h : Rd w a n f) (hk : ∀ b o, a = some ⟨b, o, none⟩ → b < w.heap.size → w'.heap[b]? = w.heap[b]?) : Rd w' a n f := by
  rcases h with h | ⟨b, o, e, h⟩
  · exact Or.inl h
  · by_cases hn : n = 0
    · exact Or.inl hn
    · exact Or.inr ⟨b, o, e, fun i hi => (World.cell?_of_block (w := w) (a := ⟨b, o + i, none⟩) (hk b o e (lt_of_cell (h 0 (by omega))))).trans (h i hi)⟩

theorem Rd.below {w w' : World} {a : Option Addr} {n : Nat} {f : Nat → Int} (h : Rd w a n f) (hb : Below w.heap.size w w') : Rd w' a n f :=
  h.kept fun b _ _ hb' => hb.block b hb'

theorem grown_trans {w w1 w2 : World} {g : Nat} (h : w.grownBy w1 (some g)) (k : w1.grownBy w2 (some g)) : w.grownBy w2 (some g) :=
  ⟨k.os.trans h.os, k.tape.trans h.tape, k.output.trans h.output, Nat.le_trans h.size k.size, fun i h1 h2 => (k.block i (Nat.lt_of_lt_of_le h1 h.size) h2).trans (h.block i h1 h2)⟩

set_option maxHeartbeats 1000000 in
theorem ends_any {D : Dat} (ok : Ok D) (a1 a2 : Option Addr) (c1 c2 En : Nat) (h1 : 0 < D.n → ∀ b o, a1 = some ⟨b, o, none⟩ → b ≠ En) (h2 : 0 < D.n → ∀ b o, a2 = some ⟨b, o, none⟩ → b ≠ En) :
    ∀ (m lo hi : Nat) (w : World) (e : Nat → Int), hi - lo ≤ m → lo ≤ hi → hi ≤ D.n → Rd w a1 D.n D.po → Rd w a2 D.n D.sz → w.rowIs En 2 D.n (fun i => .int .i64 (e i)) →
    Calls Try.prog 13 #[.slice a1 D.n c1, .slice a2 D.n c2, .slice (some ⟨En, 0, none⟩) D.n D.n, .int .i64 lo, .int .i64 hi] w fun r w' =>
      ∃ (x : Int) (e' : Nat → Int), r = .returned (.int .i64 x) ∧ (∀ i, lo ≤ i → i < hi → D.en i ≤ x) ∧ (∀ f, EndsOK D e' f lo hi) ∧ (∀ i, i < lo ∨ hi ≤ i → e' i = e i) ∧ w.grownBy w' (some En) ∧ w'.rowIs En 2 D.n (fun i => .int .i64 (e' i)) := by
  intro m
  induction m with
  | zero =>
    intro lo hi w e hm hlo hhi r1 r2 row
    have hh : (hi : Int) ≤ (lo : Int) := by omega
    go_enter Try.func13, Try.ntmps13
    go_wp2_with fail
    go_ret
    exact ⟨-1, e, rfl, fun i a b => by omega, fun f => by cases f with
      | zero => trivial
      | succ f => intro h; omega, fun _ _ => rfl, ⟨rfl, rfl, rfl, Nat.le_refl _, fun _ _ _ => rfl⟩, row⟩
  | succ m ih =>
    intro lo hi w e hm hlo hhi r1 r2 row
    by_cases hlt : lo < hi
    · have hn0 : ¬ D.n = 0 := by omega
      obtain ⟨b1, o1, rfl, p1⟩ := r1.resolve_left hn0
      obtain ⟨b2, o2, rfl, p2⟩ := r2.resolve_left hn0
      obtain ⟨mid, hmid, HM⟩ : ∃ mid : Nat, (lo : Int) + ((hi : Int) - (lo : Int)) / 2 = (mid : Int) ∧ Hid (mid = (lo + hi) / 2) := ⟨(lo + hi) / 2, by omega, rfl⟩
      have m1 : lo ≤ mid := by have := HM.out; omega
      have m2 : mid < hi := by have := HM.out; omega
      have mb : (mid : Int) < (D.n : Int) := by omega
      have mb0 : (0 : Int) ≤ (mid : Int) := by omega
      have q1 := p1 mid (by omega)
      have q2 := p2 mid (by omega)
      have e1 := ok.enM mid (by omega)
      have e2 := ok.po0 mid (by omega)
      have e3 := ok.sz1 mid (by omega)
      have hnb := ok.nb
      have R1 : Hid (Rd w (some ⟨b1, o1, none⟩) D.n D.po) := Or.inr ⟨b1, o1, rfl, p1⟩
      have R2 : Hid (Rd w (some ⟨b2, o2, none⟩) D.n D.sz) := Or.inr ⟨b2, o2, rfl, p2⟩
      have H1 : Hid _ := h1
      have H2 : Hid _ := h2
      have IH : Hid _ := ih
      clear p1 p2 r1 r2 h1 h2 ih
      go_enter Try.func13, Try.ntmps13
      go_wp2_with fail
      go_quiet (fail)
      go_wp2_with fail
      clear hmid q1 q2
      have i1 := IH.out lo mid (w.drewN nq) e (by omega) m1 (by omega) R1.out R2.out row
      refine i1.mono ?_
      rintro r w1 ⟨x1, ea, rfl, hx1, hE1, hk1, hg1, hr1⟩
      have hg1' : w.grownBy w1 (some En) := ⟨hg1.os, hg1.tape, hg1.output, hg1.size, hg1.block⟩
      have R1a : Rd w1 (some ⟨b1, o1, none⟩) D.n D.po := R1.out.kept fun b o eb hb => hg1'.block b hb (by have := H1.out (by omega) b o eb; simpa using this)
      have R2a : Rd w1 (some ⟨b2, o2, none⟩) D.n D.sz := R2.out.kept fun b o eb hb => hg1'.block b hb (by have := H2.out (by omega) b o eb; simpa using this)
      have i2 := IH.out (mid + 1) hi w1 ea (by omega) (by omega) hhi R1a R2a hr1
      have em : ((mid + 1 : Nat) : Int) = (mid : Int) + 1 := by omega
      rw [em] at i2
      have HX1 : Hid _ := hx1
      have HE1 : Hid _ := hE1
      have HK1 : Hid _ := hk1
      have HG1 : Hid _ := hg1'
      clear em i1 hx1 hE1 hk1 hg1 hg1' hr1 R1a R2a row
      go_wp2_with fail
      refine i2.mono ?_
      rintro r w2 ⟨x2, eb, rfl, hx2, hE2, hk2, hg2, hr2⟩
      have cm := hr2.cell (i := mid) (by omega)
      have fm := hr2.frozen mid
      have HX2 : Hid _ := hx2
      have HE2 : Hid _ := hE2
      have HK2 : Hid _ := hk2
      have HG2 : Hid (w.grownBy w2 (some En)) := grown_trans HG1.out hg2
      have HR2 : Hid (w2.rowIs En 2 D.n (fun i => .int .i64 (eb i))) := hr2
      clear i2 hx2 hE2 hk2 hg2 hr2
      have fin : Hid (∀ x : Int, D.po mid + D.sz mid ≤ x → x1 ≤ x → x2 ≤ x → ∃ (x' : Int) (e' : Nat → Int), Ending.returned (.int .i64 x) = .returned (.int .i64 x') ∧ (∀ i, lo ≤ i → i < hi → D.en i ≤ x') ∧ (∀ f, EndsOK D e' f lo hi) ∧ (∀ i, i < lo ∨ hi ≤ i → e' i = e i) ∧ w.grownBy (w2.setCell ⟨En, mid, none⟩ (.int .i64 x)) (some En) ∧ (w2.setCell ⟨En, mid, none⟩ (.int .i64 x)).rowIs En 2 D.n (fun i => .int .i64 (e' i))) := by
        intro x a1 a2 a3
        have hall : ∀ i, lo ≤ i → i < hi → D.en i ≤ x := fun i b1 b2 => by
          by_cases c : i < mid
          · have := HX1.out i b1 c; omega
          · by_cases c2 : i = mid
            · subst c2; exact a1
            · have := HX2.out i (by omega) b2; omega
        refine ⟨x, fun i => if i = mid then x else eb i, rfl, hall, fun f => ?_, fun i hi' => ?_, ?_, ?_⟩
        · cases f with
          | zero => trivial
          | succ f =>
            intro _
            have hM := HM.out
            rw [← hM]
            refine ⟨fun i b1 b2 => by simpa using hall i b1 b2, ?_, ?_⟩
            · refine EndsOK.congr f lo mid (fun i b1 b2 => ?_) (HE1.out f)
              show ea i = if i = mid then x else eb i
              rw [if_neg (by omega)]
              exact (HK2.out i (Or.inl (by omega))).symm
            · refine EndsOK.congr f (mid + 1) hi (fun i b1 b2 => ?_) (HE2.out f)
              show eb i = if i = mid then x else eb i
              rw [if_neg (by omega)]
        · show (if i = mid then x else eb i) = e i
          rw [if_neg (by omega), HK2.out i (by omega), HK1.out i (by omega)]
        · have hG := HG2.out
          exact ⟨hG.os, hG.tape, hG.output, by simpa using hG.size, fun k k1 k2 => by rw [Below.heap_setCell _ _ _ _ (by simpa using k2)]; exact hG.block k k1 k2⟩
        · refine (HR2.out.set mid (.int .i64 x)).congr fun i _ => ?_
          by_cases c : i = mid
          · simp [c]
          · simp [c]
      clear HX1 HX2 HE1 HE2 HK1 HK2 HG1 HG2 IH H1 H2 R1 R2
      go_wp2_with fail
      all_goals
        go_ret
        refine fin.out _ ?_ ?_ ?_ <;> omega
    · have hh : (hi : Int) ≤ (lo : Int) := by omega
      go_enter Try.func13, Try.ntmps13
      go_wp2_with fail
      go_ret
      exact ⟨-1, e, rfl, fun i a b => by omega, fun f => by cases f with
        | zero => trivial
        | succ f => intro h; omega, fun _ _ => rfl, ⟨rfl, rfl, rfl, Nat.le_refl _, fun _ _ _ => rfl⟩, row⟩
end Go.Proofs.Qxb6613536a
