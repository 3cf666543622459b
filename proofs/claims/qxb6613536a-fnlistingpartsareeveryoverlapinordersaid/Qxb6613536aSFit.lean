import Derived.Test.Qxb6613536aFit
namespace Go.Proofs.Qxb6613536a
open Go.RowKit
set_option linter.unusedVariables false
set_option linter.unusedSimpArgs false

/-- What zzStartsFit asks of listing k. -/
def StAt (st : Nat → Int) (size : Int) (k : Nat) : Prop := 0 ≤ st k ∧ st k + size ≤ 9223372036854775806 ∧ (0 < k → st (k - 1) + size ≤ st k)

set_option maxRecDepth 100000 in
set_option maxHeartbeats 2000000 in
theorem sfit_any (a : Option Addr) (ns c : Nat) (st : Nat → Int) (size : Int) (w : World) (hn : ns ≤ 1024) (hs1 : 1 ≤ size) (hs2 : size ≤ 9223372036854775806) (r : Rd w a ns st) :
    Calls Try.prog 7 #[.slice a ns c, .int .i64 size] w fun r w' => Ans (∀ k, k < ns → StAt st size k) w r w' := by
  have R : Hid _ := r
  clear r
  go_enter Try.func7, Try.ntmps7
  go_wp2_with fail
  go_loopg [5] (ns + 1) (fun g s5 wr => ∃ k q : Nat, s5 = .int .i64 k ∧ k ≤ ns ∧ ns - k + 1 ≤ g ∧ wr = w.drewN q ∧ Hid (∀ i, i < k → StAt st size i))
  case atStart => exact ⟨0, 0, rfl, Nat.zero_le _, by omega, rfl, fun i hi => absurd hi (Nat.not_lt_zero _)⟩
  case round =>
    obtain ⟨k, q, rfl, hk, hg, rfl, HF⟩ := hrel
    by_cases hlt : k < ns
    · obtain ⟨b1, o1, rfl, p1⟩ := R.out.resolve_left (by omega)
      have kb : (k : Int) < (ns : Int) := by omega
      have kz : (0 : Int) ≤ (k : Int) := by omega
      have x1 := p1 k hlt
      have X0 : Hid (0 < k → w.cell? ⟨b1, o1 + (k - 1), none⟩ = some (.int .i64 (st (k - 1)))) := fun h => p1 (k - 1) (by omega)
      clear p1
      generalize hpv : st k = pv at x1
      have HP : Hid (st k = pv) := hpv
      clear hpv
      by_cases g1 : pv < 0
      · go_wp2_with fail
        go_ret
        exact Ans.no q rfl
      by_cases g2 : 9223372036854775806 - size < pv
      · go_wp2_with fail
        go_ret
        exact Ans.no q rfl
      have hfit : Hid (0 ≤ pv ∧ pv + size ≤ 9223372036854775806) := ⟨by omega, by omega⟩
      have fin : Hid ((0 < k → st (k - 1) + size ≤ pv) → ∀ i, i < k + 1 → StAt st size i) := fun h i hi => by
        by_cases c : i = k
        · subst c
          obtain ⟨f1, f2⟩ := hfit.out
          unfold StAt
          rw [HP.out]
          exact ⟨f1, f2, h⟩
        · exact HF.out i (by omega)
      cases k with
      | zero =>
        simp only [Nat.add_zero] at x1
        go_wp2_with fail
        go_quiet (fail)
        go_wp2_with fail
        go_roundg (ns - 1 + 1)
        case measure => omega
        case rel => exact ⟨1, _, rfl, by omega, Nat.le_refl _, by first | (simp only [World.drewN_drewN]; rfl) | rfl, fin.out (fun h => absurd h (Nat.lt_irrefl _))⟩
      | succ k =>
        have x0 : w.cell? ⟨b1, o1 + k, none⟩ = some (.int .i64 (st k)) := X0.out (Nat.succ_pos _)
        have hprev := HF.out k (Nat.lt_succ_self _)
        obtain ⟨v1, v2, _⟩ := hprev
        generalize hpw : st k = pw at x0 v1 v2
        have HW : Hid (st k = pw) := hpw
        clear hpw X0
        have kb2 : (k : Int) < (ns : Int) := by omega
        have kz2 : (0 : Int) ≤ (k : Int) := by omega
        by_cases g3 : pv < pw
        · go_wp2_with fail
          go_quiet (fail)
          go_wp2_with fail
          go_ret
          exact Ans.no _ (by first | (simp only [World.drewN_drewN]; rfl) | rfl)
        have d3 : decide (pv < pw) = false := by simpa using g3
        by_cases g4 : pv - pw < size
        · go_wp2_with fail
          go_quiet (fail)
          go_wp2_with fail
          go_ret
          exact Ans.no _ (by first | (simp only [World.drewN_drewN]; rfl) | rfl)
        · go_wp2_with fail
          go_quiet (fail)
          go_wp2_with fail
          go_roundg (ns - (k + 2) + 1)
          case measure => omega
          case rel => exact ⟨k + 2, _, by go_num, by omega, Nat.le_refl _, by first | (simp only [World.drewN_drewN]; rfl) | rfl, fin.out (fun _ => by have := HW.out; simp; omega)⟩
    · go_wp2_with fail
      go_ret
      obtain rfl : k = ns := by omega
      exact Ans.yes q rfl HF.out

/-- WHAT THE TWO GUARDS AND THE BOUNDS SAY TOGETHER. -/
theorem ok_of {D : Dat} (hn : D.n ≤ 1024) (hns : D.ns ≤ 1024) (h1 : ∀ i, i < D.n → FitAt D.po D.sz D.aa i) (h2 : ∀ k, k < D.ns → StAt D.st D.size k) (hs : 1 ≤ D.size) : Ok D where
  nb := hn
  nsb := hns
  sz1 := fun i hi => (h1 i hi).1
  po0 := fun i hi => (h1 i hi).2.1
  enM := fun i hi => (h1 i hi).2.2.1
  aa0 := fun i hi => (h1 i hi).2.2.2.1
  aaM := fun i hi => (h1 i hi).2.2.2.2.1
  mono := fun i j hij hj => by
    induction j with
    | zero => obtain rfl : i = 0 := by omega
              exact Int.le_refl _
    | succ j ih =>
      by_cases c : i = j + 1
      · subst c; exact Int.le_refl _
      · have a := ih (by omega) (by omega)
        have b := (h1 (j + 1) hj).2.2.2.2.2 (Nat.succ_pos _)
        simp at b
        omega
  st0 := fun k hk => (h2 k hk).1
  stM := fun k hk => (h2 k hk).2.1
  smono := fun i j hij hj => by
    induction j with
    | zero => obtain rfl : i = 0 := by omega
              exact Int.le_refl _
    | succ j ih =>
      by_cases c : i = j + 1
      · subst c; exact Int.le_refl _
      · have a := ih (by omega) (by omega)
        have b := (h2 (j + 1) hj).2.2 (Nat.succ_pos _)
        simp at b
        omega
  size1 := hs
end Go.Proofs.Qxb6613536a
