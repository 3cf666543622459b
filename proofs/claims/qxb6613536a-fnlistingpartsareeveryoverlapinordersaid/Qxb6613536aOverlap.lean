import Derived.Test.Qxb6613536aHalves
import Derived.BigRegion
namespace Go.Proofs.Qxb6613536a
open Go.RowKit
set_option linter.unusedVariables false
set_option linter.unusedSimpArgs false

theorem retb {x : Bool} (h : x = true) : Ending.returned (.bool x) = .returned (.bool true) := by rw [h]

/-- The part that is wanted is the part that was got. -/
theorem eq_want (f po st sz size aa q2 q3 q4 v2 v3 v4 : Int) (h : q2 = max po st - st ∧ q3 = min (po + sz) (st + size) - max po st ∧ q4 = aa + (max po st - po)) (h2 : v2 = max po st - st) (h3 : v3 = min (po + sz) (st + size) - max po st) (h4 : v4 = aa + (max po st - po)) (w : World) :
    (Op.equalIn 10000 35 (.agg #[.int .i64 f, .int .i64 q2, .int .i64 q3, .int .i64 q4]) (.agg #[.int .i64 f, .int .i64 v2, .int .i64 v3, .int .i64 v4])).run Try.prog w = .ok true w := by
  rw [eql35, decide_eq_true (by rw [h.1, h.2.1, h.2.2, h2, h3, h4])]

/-- What the limit makes of the parts. -/
theorem final_facts {L : Int} {ps G : List Pt} {b : Bool} (h : run L [] ps = (G, b)) :
    (L < 1 → ((1 < (ps.length : Int) → (G.length : Int) = 1) ∧ (¬ 1 < (ps.length : Int) → (G.length : Int) = (ps.length : Int))) ∧ b = decide ((ps.length : Int) < 1)) ∧
    (1 ≤ L → ((L < (ps.length : Int) → (G.length : Int) = L) ∧ (¬ L < (ps.length : Int) → (G.length : Int) = (ps.length : Int))) ∧ b = decide ((ps.length : Int) < L)) := by
  obtain ⟨m, h1, h2, h3⟩ := run_spec L ps []
  rw [h] at h1 h2 h3
  simp only [List.nil_append, List.length_nil, Nat.zero_add] at h1 h2 h3
  have hm : G.length = min m ps.length := by rw [h1]; simp
  cases b with
  | true =>
    obtain ⟨e1, e2⟩ := h2 rfl
    have hN : (ps.length : Int) = 0 ∨ (ps.length : Int) < L := by
      rcases e2 with e2 | e2
      · left; rw [e2]; rfl
      · right; exact e2
    refine ⟨fun hl => ⟨⟨fun _ => by omega, fun _ => by omega⟩, ?_⟩, fun hl => ⟨⟨fun _ => by omega, fun _ => by omega⟩, ?_⟩⟩
    · rw [decide_eq_true (by omega)]
    · rw [decide_eq_true (by omega)]
  | false =>
    obtain ⟨e1, e2, e3, e4⟩ := h3 rfl
    refine ⟨fun hl => ⟨⟨fun _ => by omega, fun _ => by omega⟩, ?_⟩, fun hl => ⟨⟨fun _ => by omega, fun _ => by omega⟩, ?_⟩⟩
    · rw [decide_eq_false (by omega)]
    · rw [decide_eq_false (by omega)]

/-- What has been gathered agrees with what there is, place by place. -/
theorem got_at {L : Int} {ps G pre post : List Pt} {b : Bool} {p : Pt} (h : run L [] ps = (G, b)) (hp : ps = pre ++ p :: post) (hl : pre.length < G.length) : G[pre.length]? = some p := by
  obtain ⟨m, h1, _, _⟩ := run_spec L ps []
  rw [h] at h1
  simp only [List.nil_append] at h1
  have hm : G.length = min m ps.length := by rw [h1]; simp
  rw [h1, List.getElem?_take, if_pos (by omega), hp]
  simp

set_option maxRecDepth 100000 in
set_option maxHeartbeats 2000000 in
theorem overlap_long (a0 a1 a2 a3 a4 : Option Addr) (n0 n1 n2 n3 n4 c0 c1 c2 c3 c4 : Nat) (size fr to lo hi L : Int) (w : World)
    (m0 : n0 ≤ maxLen) (m1 : n1 ≤ maxLen) (m2 : n2 ≤ maxLen) (m3 : n3 ≤ maxLen) (m4 : n4 ≤ maxLen) (h : ¬ (n0 ≤ 1024 ∧ n1 ≤ 1024 ∧ n2 ≤ 1024 ∧ n3 ≤ 1024 ∧ n4 ≤ 1024)) :
    Calls Try.prog 3 #[.slice a0 n0 c0, .slice a1 n1 c1, .slice a2 n2 c2, .slice a3 n3 c3, .slice a4 n4 c4, .int .i64 size, .int .i64 fr, .int .i64 to, .int .i64 lo, .int .i64 hi, .int .i64 L] w fun r w' => r = .returned (.bool true) ∧ Below w.heap.size w w' := by
  unfold maxLen at m0 m1 m2 m3 m4
  go_enter Try.func3, Try.ntmps3
  go_wp2_with (go_at_call 5; go_in)
  all_goals (go_ret; exact ⟨rfl, Below.refl _ _⟩)

set_option maxRecDepth 100000 in
set_option maxHeartbeats 2000000 in
theorem overlap_no (a0 a1 a2 a3 a4 : Option Addr) (n0 n1 n2 n3 n4 c0 c1 c2 c3 c4 : Nat) (size fr to lo hi L : Int) (w : World)
    (m0 : n0 ≤ 1024) (m1 : n1 ≤ 1024) (m2 : n2 ≤ 1024) (m3 : n3 ≤ 1024) (m4 : n4 ≤ 1024) (hl : ¬ (n1 = n0 ∧ n2 = n0 ∧ n3 = n0)) :
    Calls Try.prog 3 #[.slice a0 n0 c0, .slice a1 n1 c1, .slice a2 n2 c2, .slice a3 n3 c3, .slice a4 n4 c4, .int .i64 size, .int .i64 fr, .int .i64 to, .int .i64 lo, .int .i64 hi, .int .i64 L] w fun r w' => r = .returned (.bool true) ∧ Below w.heap.size w w' := by
  have hf := fit_no a0 a1 a2 a3 n0 n1 n2 n3 c0 c1 c2 c3 w hl
  clear hl
  go_enter Try.func3, Try.ntmps3
  go_wp2_with (go_at_call 5; go_in)
  refine hf.mono ?_
  rintro r w' ⟨rfl, rfl⟩
  go_wp2_with fail
  go_ret
  exact ⟨rfl, Below.refl _ _⟩

set_option maxRecDepth 100000 in
set_option maxHeartbeats 8000000 in
theorem overlap_eq (D : Dat) (a0 a1 a2 a3 a4 : Option Addr) (c0 c1 c2 c3 c4 : Nat) (fr to lo hi L : Int) (w : World)
    (m0 : D.n ≤ 1024) (m4 : D.ns ≤ 1024) (r0 : Rd w a0 D.n D.fl) (r1 : Rd w a1 D.n D.po) (r2 : Rd w a2 D.n D.sz) (r3 : Rd w a3 D.n D.aa) (r4 : Rd w a4 D.ns D.st) (hnil : a4 = none → D.ns = 0 ∧ c4 = 0) :
    Calls Try.prog 3 #[.slice a0 D.n c0, .slice a1 D.n c1, .slice a2 D.n c2, .slice a3 D.n c3, .slice a4 D.ns c4, .int .i64 D.size, .int .i64 fr, .int .i64 to, .int .i64 lo, .int .i64 hi, .int .i64 L] w fun r w' => r = .returned (.bool true) ∧ Below w.heap.size w w' := by
  have R0 : Hid (Rd w a0 D.n D.fl) := r0
  have R1 : Hid (Rd w a1 D.n D.po) := r1
  have R2 : Hid (Rd w a2 D.n D.sz) := r2
  have R3 : Hid (Rd w a3 D.n D.aa) := r3
  have R4 : Hid (Rd w a4 D.ns D.st) := r4
  clear r0 r1 r2 r3 r4
  have done : Hid (∀ q, Below w.heap.size w (w.drewN q)) := fun q => below_drewN (Below.refl _ _) _
  go_enter Try.func3, Try.ntmps3
  go_wp2_with (go_at_call 5; go_in)
  refine (fit_any a0 a1 a2 a3 D.n c0 c1 c2 c3 D.po D.sz D.aa w m0 R1.out R2.out R3.out).mono ?_
  rintro r w' ⟨b, q, rfl, rfl, hC⟩
  cases b with
  | false =>
    clear hC
    go_wp2_with fail
    go_ret
    exact ⟨rfl, done.out _⟩
  | true =>
    have HC : Hid (∀ i, i < D.n → FitAt D.po D.sz D.aa i) := hC rfl
    clear hC
    by_cases h1 : 0 ≤ lo ∧ lo ≤ hi ∧ hi ≤ (D.n : Int)
    · by_cases h2 : 1 ≤ D.size ∧ D.size ≤ 9223372036854775806
      · by_cases h3 : 0 ≤ fr ∧ fr < to ∧ to ≤ D.size
        · obtain ⟨h11, h12, h13⟩ := h1
          obtain ⟨h21, h22⟩ := h2
          obtain ⟨h31, h33, h34⟩ := h3
          obtain ⟨l, rfl⟩ : ∃ l : Nat, lo = l := ⟨lo.toNat, by omega⟩
          obtain ⟨h, rfl⟩ : ∃ h : Nat, hi = h := ⟨hi.toNat, by omega⟩
          have hsf := sfit_any a4 D.ns c4 D.st D.size (w.drewN q) m4 h21 h22 R4.out
          go_wp2_with fail
          refine hsf.mono ?_
          rintro r w' ⟨b, q2, rfl, rfl, hC2⟩
          clear hsf
          cases b with
          | false =>
            clear hC2
            go_wp2_with fail
            go_ret
            exact ⟨rfl, done.out _⟩
          | true =>
            have ok : Ok D := ok_of m0 m4 HC.out (hC2 rfl) h21
            clear hC2 HC
            have hlh : l ≤ h := by omega
            have hhn : h ≤ D.n := by omega
            have hbd := build_any ok a0 a1 a2 a3 a4 c0 c1 c2 c3 c4 l h (w.drewN (q + q2)) hlh hhn R0.out R1.out R2.out R3.out R4.out hnil
            go_wp2_with fail
            refine hbd.mono ?_
            rintro r w1 ⟨X, P, En, sv, e, rfl, hb1, hL1, hE⟩
            clear hbd hnil
            obtain ⟨sa, sl, sc, rfl⟩ : ∃ sa sl sc, sv = .slice sa sl sc := by
              rcases hL1.slice with ⟨rfl, _⟩ | ⟨S, rfl⟩
              · exact ⟨_, _, _, rfl⟩
              · exact ⟨_, _, _, rfl⟩
            have HB1 : Hid (Below w.heap.size w w1) := (below_drewN (Below.refl _ _) _ : Below w.heap.size w (w.drewN (q + q2))).trans hb1
            have HL1 : Hid (Lst w1 D w1.heap.size X P En (.slice sa sl sc) e) := hL1
            have HE : Hid (∀ f, EndsOK D e f l h) := hE
            clear hb1 hL1 hE done
            go_wp2_with fail
            obtain ⟨w2, hw2⟩ : ∃ w2, w2 = w1.alloc (.cells #[.pointer (some ⟨X, 0, none⟩), .slice sa sl sc] 29) := ⟨_, rfl⟩
            have hb2 : Below w1.heap.size w1 w2 := by rw [hw2]; exact (Below.refl _ _).alloc (Nat.le_refl _) _
            rw [← hw2]
            clear hw2
            have hL2 : Lst w2 D w2.heap.size X P En (.slice sa sl sc) e := (HL1.out.below hb2).wider hb2.size
            have hB2 : Below w.heap.size w w2 := HB1.out.trans (hb2.mono HB1.out.size)
            obtain ⟨G, b, hG⟩ : ∃ G b, run L [] (all D fr to l h) = (G, b) := ⟨_, _, rfl⟩
            refine (lparts_slice ok (L := L) h31 h33 h34 l h w2 hlh hhn (HE.out _) hL2 G b hG).mono ?_
            rintro r w3 ⟨s1, k1, rfl, hb3, ps1⟩
            have HB3 : Hid (Below w.heap.size w w3) := hB2.trans (hb3.mono hB2.size)
            have P1 : Hid (Ps w3 s1 G) := ps1
            have Q0 : Hid (Rd w3 a0 D.n D.fl) := R0.out.below HB3.out
            have Q1 : Hid (Rd w3 a1 D.n D.po) := R1.out.below HB3.out
            have Q2 : Hid (Rd w3 a2 D.n D.sz) := R2.out.below HB3.out
            have Q3 : Hid (Rd w3 a3 D.n D.aa) := R3.out.below HB3.out
            have Q4 : Hid (Rd w3 a4 D.ns D.st) := R4.out.below HB3.out
            have HG : Hid (run L [] (all D fr to l h) = (G, b)) := hG
            clear hL2 hB2 hb3 hb2 ps1 HL1 HB1 HE R0 R1 R2 R3 R4 hG
            have blen := all_len_ok ok fr to l h hhn
            have hGl : G.length ≤ (all D fr to l h).length := by
              have h := run_len L (all D fr to l h) []
              rw [HG.out] at h
              simpa using h
            have hb0 : Below w3.heap.size w3 w3 := Below.refl _ _
            by_cases hL1 : L < 1
            all_goals
              go_wp2_with fail
              go_loopg [27, 28] (h - l + 1) (fun g s27 s28 wr => ∃ (i : Nat) (pre : List Pt), s27 = .int .i64 pre.length ∧ s28 = .int .i64 i ∧ l ≤ i ∧ i ≤ h ∧ h - i + 1 ≤ g ∧ Hid (Below w3.heap.size w3 wr) ∧ Hid (all D fr to l h = pre ++ all D fr to i h))
              case atStart => exact ⟨l, [], rfl, rfl, Nat.le_refl _, hlh, Nat.le_refl _, hb0, rfl⟩
              case round =>
                obtain ⟨i, pre, rfl, rfl, hli, hih, hg, hbr, hpre⟩ := hrel
                by_cases hlt : i < h
                · obtain ⟨b1, o1, rfl, p1⟩ := Q1.out.resolve_left (by omega)
                  obtain ⟨b2, o2, rfl, p2⟩ := Q2.out.resolve_left (by omega)
                  have ib : (i : Int) < (D.n : Int) := by omega
                  have iz : (0 : Int) ≤ (i : Int) := by omega
                  have x1 := keepC hbr.out (p1 i (by omega))
                  have x2 := keepC hbr.out (p2 i (by omega))
                  have e1 := ok.enM i (by omega)
                  have e2 := ok.po0 i (by omega)
                  have e3 := ok.sz1 i (by omega)
                  clear p1 p2
                  have hst : Hid (all D fr to l h = pre ++ (rowFrom D fr to i 0 ++ all D fr to (i + 1) h)) := by
                    unfold Hid
                    rw [hpre.out, all_cons hlt]
                    rfl
                  go_wp2_with fail
                  clear x1 x2
                  go_loopg [27, 31] (D.ns + 1) (fun g s27 s31 wi => ∃ (k : Nat) (pre : List Pt), s27 = .int .i64 pre.length ∧ s31 = .int .i64 k ∧ k ≤ D.ns ∧ D.ns - k + 1 ≤ g ∧ Hid (Below w3.heap.size w3 wi) ∧ Hid (all D fr to l h = pre ++ (rowFrom D fr to i k ++ all D fr to (i + 1) h)))
                  case atStart => exact ⟨0, pre, rfl, rfl, Nat.zero_le _, by omega, hbr.out, hst.out⟩
                  case round =>
                    clear hpre hst
                    obtain ⟨k, pre, rfl, rfl, hk, hg2, hbi, hpre⟩ := hrel
                    have hplen : pre.length ≤ (all D fr to l h).length := by rw [hpre.out]; simp
                    by_cases hkn : k < D.ns
                    · obtain ⟨b4, o4, rfl, p4⟩ := Q4.out.resolve_left (by omega)
                      have kb : (k : Int) < (D.ns : Int) := by omega
                      have kz : (0 : Int) ≤ (k : Int) := by omega
                      have x4 := keepC hbi.out (p4 k hkn)
                      have s0 := ok.st0 k hkn
                      have sM := ok.stM k hkn
                      clear p4
                      by_cases hh1 : D.st k + to ≤ D.po i
                      · have hms : Hid (all D fr to l h = pre ++ (rowFrom D fr to i (k + 1) ++ all D fr to (i + 1) h)) := by
                          have hx : hit D fr to i k = false := by
                            have : ¬ D.po i < D.st k + to := by omega
                            unfold hit; simp [this]
                          unfold Hid
                          rw [hpre.out, rowFrom_miss hkn hx]
                        go_wp2_with fail
                        go_roundg (D.ns - (k + 1) + 1)
                        case measure => omega
                        case rel => exact ⟨k + 1, pre, rfl, by go_num, by omega, Nat.le_refl _, hbi.out, hms.out⟩
                      · have d1 : decide (D.st k + to ≤ D.po i) = false := by simpa using hh1
                        by_cases hh2 : D.po i + D.sz i ≤ D.st k + fr
                        · have hms : Hid (all D fr to l h = pre ++ (rowFrom D fr to i (k + 1) ++ all D fr to (i + 1) h)) := by
                            have hx : hit D fr to i k = false := by
                              have : ¬ D.st k + fr < D.en i := by unfold Dat.en; omega
                              unfold hit; simp [this]
                            unfold Hid
                            rw [hpre.out, rowFrom_miss hkn hx]
                          go_wp2_with fail
                          go_roundg (D.ns - (k + 1) + 1)
                          case measure => omega
                          case rel => exact ⟨k + 1, pre, rfl, by go_num, by omega, Nat.le_refl _, hbi.out, hms.out⟩
                        · have hpt : Hid (all D fr to l h = pre ++ (pt D i k :: (rowFrom D fr to i (k + 1) ++ all D fr to (i + 1) h))) := by
                            have hx : hit D fr to i k = true := by
                              unfold hit Dat.en; simp; omega
                            unfold Hid
                            rw [hpre.out, rowFrom_hit hkn hx, List.cons_append]
                          have hms : Hid (all D fr to l h = (pre ++ [pt D i k]) ++ (rowFrom D fr to i (k + 1) ++ all D fr to (i + 1) h)) := by
                            unfold Hid
                            rw [hpt.out]; simp
                          have hlen3 : pre.length < (all D fr to l h).length := by rw [hpt.out]; simp
                          by_cases hcmp : pre.length < G.length
                          · obtain ⟨b0, o0, rfl, p0⟩ := Q0.out.resolve_left (by omega)
                            obtain ⟨b3, o3, rfl, p3⟩ := Q3.out.resolve_left (by omega)
                            obtain ⟨gG, rfl, pG⟩ := P1.out.resolve_left (fun e => by rw [e] at hcmp; exact absurd hcmp (Nat.not_lt_zero _))
                            have x0 := keepC hbi.out (p0 i (by omega))
                            have x3 := keepC hbi.out (p3 i (by omega))
                            obtain ⟨y1, y2, y3, y4⟩ := pG pre.length (pt D i k) (got_at HG.out hpt.out hcmp)
                            have y1 := keepC hbi.out y1
                            have y2 := keepC hbi.out y2
                            have y3 := keepC hbi.out y3
                            have y4 := keepC hbi.out y4
                            have pb : (pre.length : Int) < (G.length : Int) := by omega
                            have pz : (0 : Int) ≤ (pre.length : Int) := by omega
                            have a0 := ok.aa0 i (by omega)
                            have aM := ok.aaM i (by omega)
                            have z0 := lt_of_cell x0
                            have z3 := lt_of_cell x3
                            have zG := lt_of_cell y1
                            have hgd := guard35
                            clear p0 p3 pG
                            obtain ⟨q2, q3, q4, hq, HQ⟩ : ∃ q2 q3 q4, pt D i k = (D.fl i, q2, q3, q4) ∧ Hid (q2 = max (D.po i) (D.st k) - D.st k ∧ q3 = min (D.po i + D.sz i) (D.st k + D.size) - max (D.po i) (D.st k) ∧ q4 = D.aa i + (max (D.po i) (D.st k) - D.po i)) := ⟨_, _, _, rfl, rfl, rfl, rfl⟩
                            rw [hq] at y1 y2 y3 y4
                            clear hq
                            simp only at y1 y2 y3 y4
                            by_cases c1 : D.po i < D.st k
                            · by_cases c2 : D.st k + D.size < D.po i + D.sz i
                              · have eqw := eq_want (D.fl i) (D.po i) (D.st k) (D.sz i) D.size (D.aa i)
                                have hE1 := eqw q2 q3 q4 (0) (D.st k + D.size - D.st k) (D.aa i + (D.st k - D.po i)) HQ.out (by omega) (by omega) (by omega)
                                have hE2 := eqw q2 q3 q4 (0) (D.size) (D.aa i + (D.st k - D.po i)) HQ.out (by omega) (by omega) (by omega)
                                clear eqw
                                go_wp2_with fail
                                go_region
                                go_wp2_with fail
                                go_quiet (fail)
                                go_wp2_with fail
                                go_roundg (D.ns - (k + 1) + 1)
                                case measure => omega
                                case rel => exact ⟨k + 1, pre ++ [pt D i k], by simp, by go_num, by omega, Nat.le_refl _, below_drewN (hbi.out.alloc hbi.out.size _) _, hms.out⟩
                              · have eqw := eq_want (D.fl i) (D.po i) (D.st k) (D.sz i) D.size (D.aa i)
                                have hE1 := eqw q2 q3 q4 (0) (D.po i + D.sz i - D.st k) (D.aa i + (D.st k - D.po i)) HQ.out (by omega) (by omega) (by omega)
                                clear eqw
                                go_wp2_with fail
                                go_region
                                go_wp2_with fail
                                go_quiet (fail)
                                go_wp2_with fail
                                go_roundg (D.ns - (k + 1) + 1)
                                case measure => omega
                                case rel => exact ⟨k + 1, pre ++ [pt D i k], by simp, by go_num, by omega, Nat.le_refl _, below_drewN (hbi.out.alloc hbi.out.size _) _, hms.out⟩
                            · by_cases c2 : D.st k + D.size < D.po i + D.sz i
                              · have eqw := eq_want (D.fl i) (D.po i) (D.st k) (D.sz i) D.size (D.aa i)
                                have hE1 := eqw q2 q3 q4 (D.po i - D.st k) (D.st k + D.size - D.po i) (D.aa i) HQ.out (by omega) (by omega) (by omega)
                                have hE2 := eqw q2 q3 q4 (D.po i - D.st k) (D.st k + D.size - D.po i) (D.aa i + 0) HQ.out (by omega) (by omega) (by omega)
                                have hE3 := eqw q2 q3 q4 (D.po i - D.st k) (D.st k + D.size - D.po i) (D.aa i + (D.po i - D.po i)) HQ.out (by omega) (by omega) (by omega)
                                clear eqw
                                go_wp2_with fail
                                go_region
                                go_wp2_with fail
                                go_quiet (fail)
                                go_wp2_with fail
                                go_roundg (D.ns - (k + 1) + 1)
                                case measure => omega
                                case rel => exact ⟨k + 1, pre ++ [pt D i k], by simp, by go_num, by omega, Nat.le_refl _, below_drewN (hbi.out.alloc hbi.out.size _) _, hms.out⟩
                              · have eqw := eq_want (D.fl i) (D.po i) (D.st k) (D.sz i) D.size (D.aa i)
                                have hE1 := eqw q2 q3 q4 (D.po i - D.st k) (D.po i + D.sz i - D.po i) (D.aa i) HQ.out (by omega) (by omega) (by omega)
                                have hE2 := eqw q2 q3 q4 (D.po i - D.st k) (D.po i + D.sz i - D.po i) (D.aa i + 0) HQ.out (by omega) (by omega) (by omega)
                                have hE3 := eqw q2 q3 q4 (D.po i - D.st k) (D.sz i) (D.aa i) HQ.out (by omega) (by omega) (by omega)
                                have hE4 := eqw q2 q3 q4 (D.po i - D.st k) (D.po i + D.sz i - D.po i) (D.aa i + (D.po i - D.po i)) HQ.out (by omega) (by omega) (by omega)
                                clear eqw
                                go_wp2_with fail
                                go_region
                                go_wp2_with fail
                                go_quiet (fail)
                                go_wp2_with fail
                                go_roundg (D.ns - (k + 1) + 1)
                                case measure => omega
                                case rel => exact ⟨k + 1, pre ++ [pt D i k], by simp, by go_num, by omega, Nat.le_refl _, below_drewN (hbi.out.alloc hbi.out.size _) _, hms.out⟩
                          · go_wp2_with fail
                            go_roundg (D.ns - (k + 1) + 1)
                            case measure => omega
                            case rel => exact ⟨k + 1, pre ++ [pt D i k], by simp, by go_num, by omega, Nat.le_refl _, hbi.out, hms.out⟩
                    · have hnil : Hid (all D fr to l h = pre ++ all D fr to (i + 1) h) := by
                        unfold Hid
                        rw [hpre.out, rowFrom_end (by omega), List.nil_append]
                      go_wp2_with fail
                      go_roundg (h - (i + 1) + 1)
                      case measure => omega
                      case rel => exact ⟨i + 1, pre, rfl, by go_num, by omega, by omega, Nat.le_refl _, hbi.out, hnil.out⟩
                · obtain rfl : i = h := by omega
                  have hpl : pre.length = (all D fr to l i).length := by
                    have h := hpre.out
                    rw [all_empty (Nat.le_refl _), List.append_nil] at h
                    rw [h]
                  have hff := final_facts HG.out
                  rw [← hpl] at hff
                  clear hpl blen hGl
                  go_wp2_with fail
                  all_goals
                    go_ret
                    exact ⟨retb rfl, HB3.out.trans (hbr.out.mono HB3.out.size)⟩
        · go_wp2_with fail
          all_goals (go_ret; exact ⟨rfl, done.out _⟩)
      · go_wp2_with fail
        all_goals (go_ret; exact ⟨rfl, done.out _⟩)
    · go_wp2_with fail
      all_goals (go_ret; exact ⟨rfl, done.out _⟩)

/-- THE LAW AT LENGTHS OF AT MOST 1024. -/
theorem overlap_any (a0 a1 a2 a3 a4 : Option Addr) (n0 n1 n2 n3 n4 c0 c1 c2 c3 c4 : Nat) (fl po sz aa st : Nat → Int) (size fr to lo hi L : Int) (w : World)
    (m0 : n0 ≤ 1024) (m1 : n1 ≤ 1024) (m2 : n2 ≤ 1024) (m3 : n3 ≤ 1024) (m4 : n4 ≤ 1024) (r0 : Rd w a0 n0 fl) (r1 : Rd w a1 n1 po) (r2 : Rd w a2 n2 sz) (r3 : Rd w a3 n3 aa) (r4 : Rd w a4 n4 st) (hnil : a4 = none → n4 = 0 ∧ c4 = 0) :
    Calls Try.prog 3 #[.slice a0 n0 c0, .slice a1 n1 c1, .slice a2 n2 c2, .slice a3 n3 c3, .slice a4 n4 c4, .int .i64 size, .int .i64 fr, .int .i64 to, .int .i64 lo, .int .i64 hi, .int .i64 L] w fun r w' => r = .returned (.bool true) ∧ Below w.heap.size w w' := by
  by_cases hl : n1 = n0 ∧ n2 = n0 ∧ n3 = n0
  · obtain ⟨rfl, rfl, rfl⟩ := hl
    exact overlap_eq { n := n3, ns := n4, fl := fl, po := po, sz := sz, aa := aa, st := st, size := size } a0 a1 a2 a3 a4 c0 c1 c2 c3 c4 fr to lo hi L w m0 m4 r0 r1 r2 r3 r4 hnil
  · exact overlap_no a0 a1 a2 a3 a4 n0 n1 n2 n3 n4 c0 c1 c2 c3 c4 size fr to lo hi L w m0 m1 m2 m3 m4 hl
end Go.Proofs.Qxb6613536a
