import Derived.Test.Qxb6613536aEnds
namespace Go.Proofs.Qxb6613536a
open Go.RowKit
set_option linter.unusedVariables false
set_option linter.unusedSimpArgs false

theorem Try.info2 : (Try.prog.info? 2).map (fun i => (i.zero, i.size, i.bytes)) = some (some (.int .i64 0), 1, 8) := by kernel_rfl

set_option maxHeartbeats 400000 in
theorem piece_any (a b c d : Int) (w : World) :
    Calls Try.prog 12 #[.int .i64 a, .int .i64 b, .int .i64 c, .int .i64 d] w fun r w' => r = .returned (.agg #[.int .i64 a, .int .i64 b, .int .i64 c, .int .i64 d]) ∧ Below w.heap.size w w' := by
  go_enter Try.func12, Try.ntmps12
  go_wp2
  exact bodyPost_ret (v := .agg #[.int .i64 a, .int .i64 b, .int .i64 c, .int .i64 d]) (by simp [results, Try.results12, go_sem]) rfl ⟨rfl, (Below.refl _ _).alloc (Nat.le_refl _) _⟩

set_option maxHeartbeats 400000 in
theorem listing_any (P En n : Nat) (sa : Option Addr) (sl sc : Nat) (w : World) :
    Calls Try.prog 14 #[.slice (some ⟨P, 0, none⟩) n n, .slice (some ⟨En, 0, none⟩) n n, .int .i64 n, .slice sa sl sc] w fun r w' =>
      ∃ X, r = .returned (.agg #[.pointer (some ⟨X, 0, none⟩), .slice sa sl sc]) ∧ Below w.heap.size w w' ∧ w'.cell? ⟨X, 0, none⟩ = some (.slice (some ⟨P, 0, none⟩) n n) ∧ w'.cell? ⟨X, 1, none⟩ = some (.slice (some ⟨En, 0, none⟩) n n) := by
  go_enter Try.func14, Try.ntmps14
  go_wp2
  exact bodyPost_ret (v := .agg #[.pointer (some ⟨w.heap.size + 1, 0, none⟩), .slice sa sl sc]) (by simp [results, Try.results14, go_sem]) rfl ⟨w.heap.size + 1, rfl, ((Below.refl _ _).alloc (Nat.le_refl _) _).alloc (by simp) _, by simp, by simp⟩

set_option maxHeartbeats 1000000 in
theorem clone_any (a : Option Addr) (ns cap : Nat) (st : Nat → Int) (w : World) (hns : ns ≤ 1024) (hr : Rd w a ns st) (hnil : a = none → ns = 0 ∧ cap = 0) :
    Calls Try.prog 15 #[.slice a ns cap] w fun r w' => ∃ sv, r = .returned sv ∧ Below w.heap.size w w' ∧ Sts w' sv ns st ∧ (∀ k, sv.ownBlock = some k → k < w'.heap.size) := by
  have heq := fun w => Lib.run_eql_slice_nil (P := Try.prog) w 23 2 a ns cap 0 0 Try.underlying23
  cases a with
  | none =>
    obtain ⟨rfl, rfl⟩ := hnil rfl
    go_enter Try.func15, Try.ntmps15
    go_wp2
    go_ret
    exact ⟨_, rfl, Below.refl _ _, Or.inl ⟨rfl, rfl⟩, fun k hk => by cases hk⟩
  | some x =>
    have hmk := fun w => run_make_row' (P := Try.prog) 23 2 (.int .i64 0) 8 Try.underlying23 Try.info2 rfl .i64 .i64 ns (by omega) (by omega) w
    go_enter Try.func15, Try.ntmps15
    go_wp2_with fail
    clear hmk heq
    go_loopg [4] (ns + 1) (fun g s4 wr => ∃ k : Nat, s4 = .int .i64 k ∧ k ≤ ns ∧ ns - k + 1 ≤ g ∧ Hid (Below w.heap.size w wr) ∧ Hid (wr.rowIs w.heap.size 2 ns (fun i => .int .i64 (if i < k then st i else 0))))
    case atStart => exact ⟨0, rfl, Nat.zero_le _, by omega, (Below.refl _ _).alloc (Nat.le_refl _) _, (World.rowIs_made w (.int .i64 0) ns 2).congr fun i _ => by simp⟩
    case round =>
      obtain ⟨k, rfl, hk, hg, hb, hrow⟩ := hrel
      by_cases hlt : k < ns
      · obtain ⟨b, o, e, hc⟩ := hr.resolve_left (by omega)
        obtain rfl : x = ⟨b, o, none⟩ := Option.some.inj e
        have c1 := (hb.out.cell (p := ⟨b, o + k, none⟩) (lt_of_cell (hc k hlt))).trans (hc k hlt)
        have c2 := hrow.out.cell hlt
        have f2 := hrow.out.frozen k
        have kb : (k : Int) < (ns : Int) := by omega
        have k0 : (0 : Int) ≤ (k : Int) := by omega
        have hR2 : Hid ((wr.setCell ⟨w.heap.size, k, none⟩ (.int .i64 (st k))).rowIs w.heap.size 2 ns (fun i => .int .i64 (if i < k + 1 then st i else 0))) := (hrow.out.set k _).congr fun i _ => by
          by_cases c : i = k
          · subst c; simp
          · by_cases c2 : i < k
            · simp [c, c2, Nat.lt_succ_of_lt c2]
            · have : ¬ i < k + 1 := by omega
              simp [c, c2, this]
        have hB2 : Hid (Below w.heap.size w (wr.setCell ⟨w.heap.size, k, none⟩ (.int .i64 (st k)))) := hb.out.setCell (p := ⟨w.heap.size, k, none⟩) (Nat.le_refl _) _
        clear hc hr hrow hb e
        go_wp2_with fail
        go_roundg (ns - (k + 1) + 1)
        case measure => omega
        case rel => exact ⟨k + 1, by go_num, by omega, Nat.le_refl _, hB2.out, hR2.out⟩
      · go_wp2_with fail
        go_ret
        refine ⟨_, rfl, hb.out, Or.inr ⟨w.heap.size, rfl, fun j hj => ?_⟩, fun k hk => ?_⟩
        · rw [hrow.out.cell hj, if_pos (by omega)]
        · have : w.heap.size = k := Option.some.inj hk
          have := hrow.out.lt
          omega
end Go.Proofs.Qxb6613536a
