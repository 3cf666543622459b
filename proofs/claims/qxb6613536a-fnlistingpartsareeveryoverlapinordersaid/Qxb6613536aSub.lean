import Derived.Test.Qxb6613536aEq
namespace Go.Proofs.Qxb6613536a
open Go.RowKit
set_option linter.unusedVariables false
set_option linter.unusedSimpArgs false

/-- The parts A lie in a slice whose address is sa. -/
def Ps (w : World) (sa : Option Addr) (A : List Pt) : Prop :=
  A = [] ∨ ∃ g, sa = some ⟨g, 0, none⟩ ∧ ∀ (j : Nat) (p : Pt), A[j]? = some p → w.cell? ⟨g, j * 4, none⟩ = some (.int .i64 p.1) ∧ w.cell? ⟨g, j * 4 + 1, none⟩ = some (.int .i64 p.2.1) ∧ w.cell? ⟨g, j * 4 + 2, none⟩ = some (.int .i64 p.2.2.1) ∧ w.cell? ⟨g, j * 4 + 3, none⟩ = some (.int .i64 p.2.2.2)

theorem flat_at : ∀ (A : List Pt) (j : Nat) (p : Pt), A[j]? = some p → ∀ t, t < 4 → (flat A)[j * 4 + t]? = (cells4 p)[t]?
  | [], j, p, h, t, ht => by simp at h
  | a :: A, 0, p, h, t, ht => by
    have e : a = p := by simpa using h
    subst e
    show (cells4 a ++ flat A)[0 * 4 + t]? = _
    rw [Nat.zero_mul, Nat.zero_add, List.getElem?_append_left (by simpa [cells4] using ht)]
  | a :: A, j + 1, p, h, t, ht => by
    have h' : A[j]? = some p := by simpa using h
    show (cells4 a ++ flat A)[(j + 1) * 4 + t]? = _
    rw [List.getElem?_append_right (by simp [cells4]; omega)]
    have e : (j + 1) * 4 + t - (cells4 a).length = j * 4 + t := by simp [cells4]; omega
    rw [e]
    exact flat_at A j p h' t ht

theorem own_ps {w : World} {base : Nat} {v : Value} {A : List Pt} (h : w.ownsRow base 35 4 v A.length (flat A)) : ∃ sa cap, v = .slice sa A.length cap ∧ Ps w sa A := by
  rcases h.2 with ⟨rfl, h0⟩ | ⟨g, cap, cur, rfl, hrest⟩
  · have e : A = [] := List.eq_nil_of_length_eq_zero h0
    subst e
    exact ⟨none, 0, rfl, Or.inl rfl⟩
  · refine ⟨_, cap, rfl, Or.inr ⟨g, rfl, fun j p hj => ?_⟩⟩
    have hj' := (List.getElem?_eq_some_iff.1 hj).1
    have hc : ∀ t, t < 4 → w.cell? ⟨g, j * 4 + t, none⟩ = (cells4 p)[t]? := fun t ht => (h.cellAt (j * 4 + t) (by omega)).trans (flat_at A j p hj t ht)
    exact ⟨hc 0 (by omega), hc 1 (by omega), hc 2 (by omega), hc 3 (by omega)⟩

theorem Ps.kept {w w' : World} {sa : Option Addr} {A : List Pt} (h : Ps w sa A) (hb : Below w.heap.size w w') : Ps w' sa A := by
  rcases h with h | ⟨g, e, h⟩
  · exact Or.inl h
  · exact Or.inr ⟨g, e, fun j p hj => by
      obtain ⟨h1, h2, h3, h4⟩ := h j p hj
      exact ⟨keepC hb h1, keepC hb h2, keepC hb h3, keepC hb h4⟩⟩

set_option maxHeartbeats 1000000 in
theorem sub_any (sa sw : Option Addr) (ca cw : Nat) (A W : List Pt) (w : World) (hA : A.length ≤ 1048576) (hW : W.length ≤ 1048576) (pa : Ps w sa A) (pw : Ps w sw W) (hs : A.Sublist W) :
    Calls Try.prog 11 #[.slice sa A.length ca, .slice sw W.length cw] w fun r w' => r = .returned (.bool true) ∧ ∃ q, w' = w.drewN q := by
  have PA : Hid _ := pa
  have PW : Hid _ := pw
  clear pa pw
  go_enter Try.func11, Try.ntmps11
  go_wp2_with fail
  go_loopg [5, 6] (W.length + 1) (fun g s5 s6 wr => ∃ j i q : Nat, s5 = .int .i64 j ∧ s6 = .int .i64 i ∧ j ≤ A.length ∧ i ≤ W.length ∧ W.length - i + 1 ≤ g ∧ wr = w.drewN q ∧ Hid ((A.drop j).Sublist (W.drop i)))
  case atStart => exact ⟨0, 0, 0, rfl, rfl, Nat.zero_le _, Nat.zero_le _, by omega, rfl, hs⟩
  case round =>
    obtain ⟨j, i, q, rfl, rfl, hj, hi, hg, rfl, HS⟩ := hrel
    by_cases h1 : i < W.length
    · have h1' : (i : Int) < (W.length : Int) := by omega
      by_cases h2 : j < A.length
      · have h2' : (j : Int) < (A.length : Int) := by omega
        have i0 : (0 : Int) ≤ (i : Int) := by omega
        have j0 : (0 : Int) ≤ (j : Int) := by omega
        obtain ⟨ga, rfl, ka⟩ := PA.out.resolve_left (fun e => by rw [e] at h2; exact absurd h2 (Nat.not_lt_zero _))
        obtain ⟨gw, rfl, kw⟩ := PW.out.resolve_left (fun e => by rw [e] at h1; exact absurd h1 (Nat.not_lt_zero _))
        obtain ⟨a1, a2, a3, a4⟩ := ka j A[j] (List.getElem?_eq_getElem h2)
        obtain ⟨b1, b2, b3, b4⟩ := kw i W[i] (List.getElem?_eq_getElem h1)
        clear ka kw
        obtain ⟨pa, hpa⟩ : ∃ pa, A[j] = pa := ⟨_, rfl⟩
        obtain ⟨pw, hpw⟩ : ∃ pw, W[i] = pw := ⟨_, rfl⟩
        rw [hpa] at a1 a2 a3 a4
        rw [hpw] at b1 b2 b3 b4
        have HPA : Hid (A[j] = pa) := hpa
        have HPW : Hid (W[i] = pw) := hpw
        clear hpa hpw
        obtain ⟨x1, x2, x3, x4⟩ := pa
        obtain ⟨y1, y2, y3, y4⟩ := pw
        simp only at a1 a2 a3 a4 b1 b2 b3 b4
        have hgd := guard35
        by_cases heq : (y1, y2, y3, y4) = (x1, x2, x3, x4)
        · have hE : ∀ w : World, (Op.equalIn 10000 35 (.agg #[.int .i64 y1, .int .i64 y2, .int .i64 y3, .int .i64 y4]) (.agg #[.int .i64 x1, .int .i64 x2, .int .i64 x3, .int .i64 x4])).run Try.prog w = .ok true w := fun w => by rw [eql35, decide_eq_true heq]
          have HQ : Hid ((A.drop (j + 1)).Sublist (W.drop (i + 1))) := by
            have h := HS.out
            rw [List.drop_eq_getElem_cons h2, List.drop_eq_getElem_cons h1, HPA.out, HPW.out, heq] at h
            exact h.of_cons_cons
          clear heq
          go_wp2_with fail
          go_quiet (fail)
          go_wp2_with fail
          go_roundg (W.length - (i + 1) + 1)
          case measure => omega
          case rel => exact ⟨j + 1, i + 1, _, by go_num, by go_num, by omega, by omega, Nat.le_refl _, by first | (simp only [World.drewN_drewN]; rfl) | rfl, HQ.out⟩
        · have hE : ∀ w : World, (Op.equalIn 10000 35 (.agg #[.int .i64 y1, .int .i64 y2, .int .i64 y3, .int .i64 y4]) (.agg #[.int .i64 x1, .int .i64 x2, .int .i64 x3, .int .i64 x4])).run Try.prog w = .ok false w := fun w => by rw [eql35, decide_eq_false heq]
          have HQ : Hid ((A.drop j).Sublist (W.drop (i + 1))) := by
            have h := HS.out
            rw [List.drop_eq_getElem_cons h2, List.drop_eq_getElem_cons h1, HPA.out, HPW.out] at h
            unfold Hid
            rw [List.drop_eq_getElem_cons h2, HPA.out]
            rcases List.sublist_cons_iff.1 h with h | ⟨r, h, _⟩
            · exact h
            · exact absurd ((List.cons.inj h).1).symm heq
          clear heq
          go_wp2_with fail
          go_quiet (fail)
          go_wp2_with fail
          go_roundg (W.length - (i + 1) + 1)
          case measure => omega
          case rel => exact ⟨j, i + 1, _, rfl, by go_num, by omega, by omega, Nat.le_refl _, by first | (simp only [World.drewN_drewN]; rfl) | rfl, HQ.out⟩
      · obtain rfl : j = A.length := by omega
        go_wp2_with fail
        go_ret
        exact ⟨rfl, q, rfl⟩
    · have hd : j = A.length := by
        have h := HS.out.length_le
        simp at h
        omega
      subst hd
      go_wp2_with fail
      go_ret
      exact ⟨rfl, q, rfl⟩
end Go.Proofs.Qxb6613536a
