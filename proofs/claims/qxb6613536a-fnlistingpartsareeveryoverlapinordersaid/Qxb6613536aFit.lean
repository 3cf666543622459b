import Derived.Test.Qxb6613536aBL
namespace Go.Proofs.Qxb6613536a
open Go.RowKit
set_option linter.unusedVariables false
set_option linter.unusedSimpArgs false

/-- What zzPiecesFit asks of piece i. -/
def FitAt (po sz aa : Nat → Int) (i : Nat) : Prop :=
  1 ≤ sz i ∧ 0 ≤ po i ∧ po i + sz i ≤ 9223372036854775806 ∧ 0 ≤ aa i ∧ aa i + sz i ≤ 9223372036854775806 ∧ (0 < i → po (i - 1) ≤ po i)

set_option maxHeartbeats 400000 in
theorem fit_no (a0 a1 a2 a3 : Option Addr) (n n1 n2 n3 c0 c1 c2 c3 : Nat) (w : World) (h : ¬ (n1 = n ∧ n2 = n ∧ n3 = n)) :
    Calls Try.prog 6 #[.slice a0 n c0, .slice a1 n1 c1, .slice a2 n2 c2, .slice a3 n3 c3] w fun r w' => r = .returned (.bool false) ∧ w' = w := by
  by_cases e1 : n1 = n
  · subst e1
    by_cases e2 : n2 = n1
    · subst e2
      have e3 : ((n3 : Int) != (n2 : Int)) = true := by
        have : ¬ (n3 : Int) = (n2 : Int) := by omega
        simpa using this
      go_enter Try.func6, Try.ntmps6
      go_wp2
      go_ret
      exact ⟨rfl, rfl⟩
    · have e3 : ((n2 : Int) != (n1 : Int)) = true := by
        have : ¬ (n2 : Int) = (n1 : Int) := by omega
        simpa using this
      go_enter Try.func6, Try.ntmps6
      go_wp2
      go_ret
      exact ⟨rfl, rfl⟩
  · have e3 : ((n1 : Int) != (n : Int)) = true := by
      have : ¬ (n1 : Int) = (n : Int) := by omega
      simpa using this
    go_enter Try.func6, Try.ntmps6
    go_wp2
    go_ret
    exact ⟨rfl, rfl⟩

/-- It has answered b, and read alone; if b is true the claim C holds. -/
def Ans (C : Prop) (w : World) (r : Ending) (w' : World) : Prop := ∃ b q, r = .returned (.bool b) ∧ w' = w.drewN q ∧ (b = true → C)
theorem Ans.no {C : Prop} {w w' : World} (q : Nat) (h : w' = w.drewN q) : Ans C w (.returned (.bool false)) w' := ⟨false, q, rfl, h, fun h => by cases h⟩
theorem Ans.yes {C : Prop} {w w' : World} (q : Nat) (h : w' = w.drewN q) (hc : C) : Ans C w (.returned (.bool true)) w' := ⟨true, q, rfl, h, fun _ => hc⟩

set_option maxRecDepth 100000 in
set_option maxHeartbeats 2000000 in
theorem fit_any (a0 a1 a2 a3 : Option Addr) (n c0 c1 c2 c3 : Nat) (po sz aa : Nat → Int) (w : World) (hn : n ≤ 1024) (r1 : Rd w a1 n po) (r2 : Rd w a2 n sz) (r3 : Rd w a3 n aa) :
    Calls Try.prog 6 #[.slice a0 n c0, .slice a1 n c1, .slice a2 n c2, .slice a3 n c3] w fun r w' => Ans (∀ i, i < n → FitAt po sz aa i) w r w' := by
  have en : ((n : Int) != (n : Int)) = false := by simp
  have R1 : Hid _ := r1
  have R2 : Hid _ := r2
  have R3 : Hid _ := r3
  clear r1 r2 r3
  go_enter Try.func6, Try.ntmps6
  go_wp2_with fail
  go_loopg [9] (n + 1) (fun g s9 wr => ∃ k q : Nat, s9 = .int .i64 k ∧ k ≤ n ∧ n - k + 1 ≤ g ∧ wr = w.drewN q ∧ Hid (∀ i, i < k → FitAt po sz aa i))
  case atStart => exact ⟨0, 0, rfl, Nat.zero_le _, by omega, rfl, fun i hi => absurd hi (Nat.not_lt_zero _)⟩
  case round =>
    obtain ⟨k, q, rfl, hk, hg, rfl, HF⟩ := hrel
    by_cases hlt : k < n
    · have hn0 : ¬ n = 0 := by omega
      obtain ⟨b1, o1, rfl, p1⟩ := R1.out.resolve_left hn0
      obtain ⟨b2, o2, rfl, p2⟩ := R2.out.resolve_left hn0
      obtain ⟨b3, o3, rfl, p3⟩ := R3.out.resolve_left hn0
      have kb : (k : Int) < (n : Int) := by omega
      have kz : (0 : Int) ≤ (k : Int) := by omega
      have x1 := p1 k hlt
      have x2 := p2 k hlt
      have x3 := p3 k hlt
      have X0 : Hid (0 < k → w.cell? ⟨b1, o1 + (k - 1), none⟩ = some (.int .i64 (po (k - 1)))) := fun h => p1 (k - 1) (by omega)
      clear p1 p2 p3
      generalize hpv : po k = pv at x1
      generalize hsv : sz k = sv at x2
      generalize hav : aa k = av at x3
      have HP : Hid (po k = pv ∧ sz k = sv ∧ aa k = av) := ⟨hpv, hsv, hav⟩
      clear hpv hsv hav
      by_cases g1 : sv < 1
      · go_wp2_with fail
        go_ret
        exact Ans.no q rfl
      by_cases g2 : 9223372036854775806 < sv
      · go_wp2_with fail
        go_ret
        exact Ans.no q rfl
      by_cases g3 : pv < 0
      · go_wp2_with fail
        go_quiet (fail)
        go_wp2_with fail
        go_ret
        exact Ans.no (q + nq) (by simp)
      have d3 : decide (pv < 0) = false := by simpa using g3
      by_cases g4 : 9223372036854775806 - sv < pv
      · go_wp2_with fail
        go_quiet (fail)
        go_wp2_with fail
        go_ret
        exact Ans.no (q + nq) (by simp)
      by_cases g5 : av < 0
      · go_wp2_with fail
        go_quiet (fail)
        go_wp2_with fail
        go_quiet (fail)
        go_wp2_with fail
        go_ret
        exact Ans.no _ (by first | (simp only [World.drewN_drewN]; rfl) | rfl)
      have d5 : decide (av < 0) = false := by simpa using g5
      by_cases g6 : 9223372036854775806 - sv < av
      · go_wp2_with fail
        go_quiet (fail)
        go_wp2_with fail
        go_quiet (fail)
        go_wp2_with fail
        go_ret
        exact Ans.no _ (by first | (simp only [World.drewN_drewN]; rfl) | rfl)
      have hfit : Hid (1 ≤ sv ∧ 0 ≤ pv ∧ pv + sv ≤ 9223372036854775806 ∧ 0 ≤ av ∧ av + sv ≤ 9223372036854775806) := ⟨by omega, by omega, by omega, by omega, by omega⟩
      have fin : Hid ((0 < k → po (k - 1) ≤ pv) → ∀ i, i < k + 1 → FitAt po sz aa i) := fun h i hi => by
        by_cases c : i = k
        · subst c
          obtain ⟨e1, e2, e3⟩ := HP.out
          obtain ⟨f1, f2, f3, f4, f5⟩ := hfit.out
          unfold FitAt
          rw [e1, e2, e3]
          exact ⟨f1, f2, f3, f4, f5, h⟩
        · exact HF.out i (by omega)
      cases k with
      | zero =>
        simp only [Nat.add_zero] at x1 x2 x3
        go_wp2_with fail
        go_quiet (fail)
        go_wp2_with fail
        go_quiet (fail)
        go_wp2_with fail
        go_quiet (fail)
        go_wp2_with fail
        go_roundg (n - 1 + 1)
        case measure => omega
        case rel => exact ⟨1, _, rfl, by omega, Nat.le_refl _, by first | (simp only [World.drewN_drewN]; rfl) | rfl, fin.out (fun h => absurd h (Nat.lt_irrefl _))⟩
      | succ k =>
        have x0 : w.cell? ⟨b1, o1 + k, none⟩ = some (.int .i64 (po k)) := X0.out (Nat.succ_pos _)
        generalize hpw : po k = pw at x0
        have HW : Hid (po k = pw) := hpw
        clear hpw X0
        have kb2 : (k : Int) < (n : Int) := by omega
        have kz2 : (0 : Int) ≤ (k : Int) := by omega
        by_cases g7 : pv < pw
        · go_wp2_with fail
          go_quiet (fail)
          go_wp2_with fail
          go_quiet (fail)
          go_wp2_with fail
          go_quiet (fail)
          go_wp2_with fail
          go_ret
          exact Ans.no _ (by first | (simp only [World.drewN_drewN]; rfl) | rfl)
        · go_wp2_with fail
          go_quiet (fail)
          go_wp2_with fail
          go_quiet (fail)
          go_wp2_with fail
          go_quiet (fail)
          go_wp2_with fail
          go_roundg (n - (k + 2) + 1)
          case measure => omega
          case rel => exact ⟨k + 2, _, by go_num, by omega, Nat.le_refl _, by first | (simp only [World.drewN_drewN]; rfl) | rfl, fin.out (fun _ => by have := HW.out; simp; omega)⟩
    · go_wp2_with fail
      go_ret
      obtain rfl : k = n := by omega
      exact Ans.yes q rfl HF.out
end Go.Proofs.Qxb6613536a
