import Derived.Test.Qxb6613536aParts
namespace Go.Proofs.Qxb6613536a
open Go.RowKit
set_option linter.unusedVariables false
set_option linter.unusedSimpArgs false

set_option maxRecDepth 100000 in
set_option maxHeartbeats 1000000 in
theorem parts_nil {D : Dat} (ok : Ok D) (hns : D.ns = 0) {O X P En Lb : Nat} {e : Nat → Int} {fr to : Int} (hfr : 0 ≤ fr) (hft : fr < to)
    (lo hi : Nat) (w : World) (hlo : lo ≤ hi) (hhi : hi ≤ D.n) (hL : Lst w D O X P En (.slice none 0 0) e) (hO : O ≤ w.heap.size) :
    Calls Try.prog 16 (pargs D X O Lb (.slice none 0 0) fr to lo hi) w fun r w' => r = .returned (.bool true) ∧ Below w.heap.size w w' := by
  have hnb := ok.nb
  have hxlt := lt_of_cell hL.x0
  go_enter Try.func16, Try.ntmps16
  go_wp2_with fail
  refine wp_loop_rounds 1 ?_
  rw [rounds_succ]
  by_cases hlt : lo < hi
  · have lb : (lo : Int) < (D.n : Int) := by omega
    have l0 : (0 : Int) ≤ (lo : Int) := by omega
    obtain ⟨w1, hw1⟩ : ∃ w1, w1 = w.alloc (Obj.cells #[Value.pointer (some { block := X, off := 0 }), .slice none 0 0] 29) := ⟨_, rfl⟩
    have hb1 : Below w.heap.size w w1 := by rw [hw1]; exact (Below.refl _ _).alloc (Nat.le_refl _) _
    have y0 : w1.cell? ⟨w.heap.size, 0, none⟩ = some (.pointer (some ⟨X, 0, none⟩)) := by rw [hw1]; simp
    have y1 : w1.cell? ⟨w.heap.size, 1, none⟩ = some (.slice none 0 0) := by rw [hw1]; simp
    have c0 := keepC hb1 hL.x0
    have c1 := keepC hb1 (hL.p1 lo (by omega))
    rw [← hw1]
    clear hw1
    have hBr := Below.refl w1.heap.size w1
    obtain ⟨mid, hmid, HM⟩ : ∃ mid : Nat, ((lo : Int) + (hi : Int)) / 2 = (mid : Int) ∧ Hid (mid = (lo + hi) / 2) := ⟨(lo + hi) / 2, by omega, rfl⟩
    go_wp2_with fail
    clear hmid
    go_region_held3 (fun w' => Below w1.heap.size w1 w' ∧ w'.cell? ⟨w.heap.size, 0, none⟩ = some (.pointer (some ⟨X, 0, none⟩)) ∧ w'.cell? ⟨w.heap.size, 1, none⟩ = some (.slice none 0 0) ∧
          w'.cell? ⟨X, 0, none⟩ = some (.slice (some ⟨P, 0, none⟩) D.n D.n) ∧ w'.cell? ⟨P, lo * 4 + 1, none⟩ = some (.int .i64 (D.po lo)))
        (first | exact ⟨hBr.drew, y0, y1, c0, c1⟩ | (go_split_ands; exact ⟨keepB (by assumption) hlast, keepC hlast (by assumption), keepC hlast (by assumption), keepC hlast (by assumption), keepC hlast (by assumption)⟩))
        (first
          | (go_at_call 18; go_split_ands; refine (first_any _ _ 0 D.st to (D.po lo) _ (by omega) (fun k hk => absurd hk (Nat.not_lt_zero _)) (by omega) (fun k hk => absurd hk (Nat.not_lt_zero _)) (fun j k _ hk => absurd hk (Nat.not_lt_zero _)) (Or.inl ⟨rfl, rfl⟩) rfl).mono ?_; rintro e w' ⟨⟨k, rfl, hk1, hk2, hk3⟩, hlast⟩))
    go_split_ands
    have hb2 : Below w.heap.size w w' := keepB hb1 ((Below.drew (Below.refl _ _)).trans hlast)
    obtain rfl : k = 0 := by omega
    go_wp2_with fail
    go_quiet (fail)
    go_wp2_with fail
    go_ret
    exact ⟨rfl, below_drewN hb2 _⟩
  · go_wp2_with fail
    go_ret
    exact ⟨rfl, (Below.refl _ _).alloc (Nat.le_refl _) _⟩

/-- THE CONTRACT OF (listing).parts. -/
theorem parts_any {D : Dat} (ok : Ok D) {O X P En Lb : Nat} {sv : Value} {e : Nat → Int} {L fr to : Int} (hfr : 0 ≤ fr) (hft : fr < to) (hto : to ≤ D.size) (hLb : Lb < O) :
    ∀ (m lo hi f : Nat) (w : World) (out : List Pt), hi - lo ≤ m → lo ≤ hi → hi ≤ D.n → hi - lo ≤ f → EndsOK D e f lo hi → Lst w D O X P En sv e → w.cell? ⟨Lb, 0, none⟩ = some (.int .i64 L) → OutIs w O out → out.length + (hi - lo) * D.ns ≤ 1048576 →
    Calls Try.prog 16 (pargs D X O Lb sv fr to lo hi) w fun r w' => r = .returned (.bool (run L out (all D fr to lo hi)).2) ∧ Fr O w w' ∧ OutIs w' O (run L out (all D fr to lo hi)).1 := by
  intro m
  induction m with
  | zero =>
    intro lo hi f w out hm hlo hhi hf hE hL hl hO hlen
    rcases hL.slice with ⟨rfl, hns⟩ | ⟨S, rfl⟩
    · refine (parts_nil ok hns hfr hft lo hi w hlo hhi hL (Nat.le_of_lt hO.lt)).mono ?_
      rintro r w' ⟨rfl, hb⟩
      rw [all_empty (by omega), run_nil]
      exact ⟨rfl, Fr.of_below hO.lt hb, hO.of_below hb⟩
    · exact parts_step ok hfr hft hto hLb lo hi f w out hlo hhi hf hE hL hl hO hlen (fun lo' hi' _ _ _ h => absurd h (by omega))
  | succ m ih =>
    intro lo hi f w out hm hlo hhi hf hE hL hl hO hlen
    rcases hL.slice with ⟨rfl, hns⟩ | ⟨S, rfl⟩
    · refine (parts_nil ok hns hfr hft lo hi w hlo hhi hL (Nat.le_of_lt hO.lt)).mono ?_
      rintro r w' ⟨rfl, hb⟩
      rw [all_nil (fun i _ _ k hk => by omega), run_nil]
      exact ⟨rfl, Fr.of_below hO.lt hb, hO.of_below hb⟩
    · exact parts_step ok hfr hft hto hLb lo hi f w out hlo hhi hf hE hL hl hO hlen (fun lo' hi' f' w' out' h1 h2 h3 h4 h5 h6 h7 h8 h9 => ih lo' hi' f' w' out' (by omega) h2 h3 h4 h5 h6 h7 h8 h9)
end Go.Proofs.Qxb6613536a
