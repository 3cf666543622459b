import Derived.Test.Qxb6613536aRows
import Derived.Test.Qxb6613536aPlain
import Derived.WalkKit
import Derived.WalkSpells
import Derived.WalkLawsBesides
import Derived.Below
import Derived.LoopTactic
import Derived.Deep.LoopGhost
import Derived.BigQuiet
import Derived.Deep.QuietTactic
import Derived.Deep.RegionHeld3
import Derived.Laws.EntriesVeiled
namespace Go.Proofs.Qxb6613536a
open Go.RowKit
set_option linter.unusedVariables false
set_option linter.unusedSimpArgs false

set_option maxHeartbeats 400000 in
theorem clo_any (b3 b4 b5 S ns k : Nat) (s to pos : Int) (w : World) (hk : k < ns) (hns : ns ≤ 1024) (h0 : 0 ≤ s) (h1 : 0 ≤ to) (h2 : s + to ≤ 9223372036854775806)
    (c3 : w.cell? ⟨b3, 1, none⟩ = some (.slice (some ⟨S, 0, none⟩) ns ns)) (cs : w.cell? ⟨S, k, none⟩ = some (.int .i64 s)) (c4 : w.cell? ⟨b4, 0, none⟩ = some (.int .i64 to)) (c5 : w.cell? ⟨b5, 0, none⟩ = some (.int .i64 pos)) :
    Calls Try.prog 20 #[.int .i64 k, .pointer (some ⟨b3, 0, none⟩), .pointer (some ⟨b4, 0, none⟩), .pointer (some ⟨b5, 0, none⟩)] w fun e w' => e = .returned (.bool (decide (pos < s + to))) ∧ ∃ q, w' = w.drewN q := by
  have kb : (k : Int) < (ns : Int) := by omega
  have k0 : (0 : Int) ≤ (k : Int) := by omega
  go_enter Try.func20, Try.ntmps20
  go_wp2_with fail
  go_quiet (fail)
  go_wp2
  go_ret
  exact ⟨rfl, _, rfl⟩

set_option maxHeartbeats 400000 in
theorem search_any (b3 b4 b5 S ns : Nat) (st : Nat → Int) (to pos : Int) (w : World) (hns : ns ≤ 1024) (h0 : ∀ k, k < ns → 0 ≤ st k) (h1 : 0 ≤ to) (h2 : ∀ k, k < ns → st k + to ≤ 9223372036854775806) (hm : ∀ j k, j ≤ k → k < ns → st j ≤ st k)
    (c3 : w.cell? ⟨b3, 1, none⟩ = some (.slice (some ⟨S, 0, none⟩) ns ns)) (cs : ∀ k, k < ns → w.cell? ⟨S, k, none⟩ = some (.int .i64 (st k))) (c4 : w.cell? ⟨b4, 0, none⟩ = some (.int .i64 to)) (c5 : w.cell? ⟨b5, 0, none⟩ = some (.int .i64 pos)) :
    Calls Try.prog 19 #[.int .i64 ns, .func (Fn.func 20) #[] #[.pointer (some ⟨b3, 0, none⟩), .pointer (some ⟨b4, 0, none⟩), .pointer (some ⟨b5, 0, none⟩)]] w fun e w' =>
      (∃ k : Nat, e = .returned (.int .i64 k) ∧ k ≤ ns ∧ (∀ j, j < k → st j + to ≤ pos) ∧ (k < ns → pos < st k + to)) ∧ ∃ q, w' = w.drewN q := by
  go_enter Try.func19, Try.ntmps19
  go_wp2_with fail
  go_loopg [5, 6] (ns + 1) (fun g s5 s6 wr => ∃ (i j : Nat), s5 = .int .i64 i ∧ s6 = .int .i64 j ∧ i ≤ j ∧ j ≤ ns ∧ j - i + 1 ≤ g ∧ (∃ q, wr = w.drewN q) ∧ (∀ x, x < i → st x + to ≤ pos) ∧ (j < ns → pos < st j + to))
  case atStart => exact ⟨0, ns, rfl, rfl, Nat.zero_le _, Nat.le_refl _, by omega, ⟨0, rfl⟩, fun x hx => by omega, fun h => by omega⟩
  case round =>
    obtain ⟨i, j, rfl, rfl, hij, hj, hg, ⟨q, rfl⟩, hlo, hhi⟩ := hrel
    by_cases hlt : i < j
    · have hh : (i + j) / 2 < ns := by omega
      have hc := clo_any b3 b4 b5 S ns ((i + j) / 2) (st ((i + j) / 2)) to pos (w.drewN q) hh hns (h0 _ hh) h1 (h2 _ hh) c3 (cs _ hh) c4 c5
      have eh : (((i + j) / 2 : Nat) : Int) = ((i : Int) + (j : Int)) / 2 := by omega
      rw [eh] at hc
      have H : Hid ((((i + j) / 2 : Nat) : Int) = ((i : Int) + (j : Int)) / 2) := eh
      clear eh
      by_cases ht : pos < st ((i + j) / 2) + to
      · rw [decide_eq_true ht] at hc
        have Ht : Hid (pos < st ((i + j) / 2) + to) := ht
        clear ht cs c3 c4 c5 h0 h2
        go_wp2_with fail
        refine hc.mono ?_
        rintro e w' ⟨rfl, q2, rfl⟩
        go_wp2_with fail
        go_roundg ((i + j) / 2 - i + 1)
        case measure => omega
        case rel => exact ⟨i, (i + j) / 2, rfl, by rw [H.out], by omega, by omega, Nat.le_refl _, ⟨q + q2, by simp⟩, hlo, fun _ => Ht.out⟩
      · rw [decide_eq_false ht] at hc
        have Ht : Hid (st ((i + j) / 2) + to ≤ pos) := Int.not_lt.1 ht
        have Hm : Hid (∀ x, x < (i + j) / 2 + 1 → st x + to ≤ pos) := fun x hx => by
          have a1 := hm x ((i + j) / 2) (by omega) hh
          have a2 : st ((i + j) / 2) + to ≤ pos := Int.not_lt.1 ht
          omega
        clear ht cs c3 c4 c5 h0 h2 hm
        go_wp2_with fail
        refine hc.mono ?_
        rintro e w' ⟨rfl, q2, rfl⟩
        go_wp2_with fail
        go_roundg (j - ((i + j) / 2 + 1) + 1)
        case measure => omega
        case rel => exact ⟨(i + j) / 2 + 1, j, by have := H.out; rw [← this]; go_num, rfl, by omega, hj, Nat.le_refl _, ⟨q + q2, by simp⟩, Hm.out, hhi⟩
    · go_wp2
      go_ret
      obtain rfl : i = j := by omega
      exact ⟨⟨i, rfl, hj, hlo, hhi⟩, q, rfl⟩

set_option maxHeartbeats 400000 in
theorem search_zero (F : Value) (w : World) :
    Calls Try.prog 19 #[.int .i64 0, F] w fun e w' => e = .returned (.int .i64 0) ∧ w' = w := by
  go_enter Try.func19, Try.ntmps19
  go_wp2_with fail
  refine wp_loop_rounds 1 ?_
  rw [rounds_succ]
  go_wp2
  go_ret
  exact ⟨rfl, rfl⟩
end Go.Proofs.Qxb6613536a
