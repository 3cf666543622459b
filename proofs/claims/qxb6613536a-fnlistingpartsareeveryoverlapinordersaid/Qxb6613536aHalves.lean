import Derived.Test.Qxb6613536aSub
namespace Go.Proofs.Qxb6613536a
open Go.RowKit
set_option linter.unusedVariables false
set_option linter.unusedSimpArgs false

/-- ZZlistingParts, its slice written out. -/
theorem lparts_slice {D : Dat} (ok : Ok D) {X P En : Nat} {sv : Value} {e : Nat → Int} {L fr to : Int} (hfr : 0 ≤ fr) (hft : fr < to) (hto : to ≤ D.size)
    (lo hi : Nat) (w : World) (hlo : lo ≤ hi) (hhi : hi ≤ D.n) (hE : EndsOK D e (hi - lo) lo hi) (hL : Lst w D w.heap.size X P En sv e) (G : List Pt) (b : Bool) (hG : run L [] (all D fr to lo hi) = (G, b)) :
    Calls Try.prog 9 #[.agg #[.pointer (some ⟨X, 0, none⟩), sv], .int .i64 D.size, .int .i64 fr, .int .i64 to, .int .i64 lo, .int .i64 hi, .int .i64 L] w fun r w' =>
      ∃ sa cap, r = .returned (.tuple #[.slice sa G.length cap, .bool b]) ∧ Below w.heap.size w w' ∧ Ps w' sa G := by
  refine (lparts_any ok (L := L) hfr hft hto lo hi w hlo hhi hE hL).mono ?_
  rintro r w' ⟨v, rfl, hb, hown⟩
  rw [hG] at hown ⊢
  obtain ⟨sa, cap, rfl, hps⟩ := own_ps hown
  exact ⟨sa, cap, rfl, hb, hps⟩

theorem all_len_ok {D : Dat} (ok : Ok D) (fr to : Int) (lo hi : Nat) (hhi : hi ≤ D.n) : (all D fr to lo hi).length ≤ 1048576 := by
  have h := all_len (D := D) (fr := fr) (to := to) _ lo hi (Nat.le_refl _)
  have h2 : (hi - lo) * D.ns ≤ 1024 * 1024 := Nat.mul_le_mul (by have := ok.nb; omega) ok.nsb
  omega

theorem run_all {D : Dat} (ok : Ok D) (fr to : Int) (lo hi : Nat) (hhi : hi ≤ D.n) : run 1073741824 [] (all D fr to lo hi) = (all D fr to lo hi, true) := by
  have h := all_len_ok ok fr to lo hi hhi
  rw [run_free _ _ _ (by simp; omega)]
  rfl

set_option maxRecDepth 100000 in
set_option maxHeartbeats 2000000 in
theorem halves_long (a0 a1 a2 a3 a4 : Option Addr) (n0 n1 n2 n3 n4 c0 c1 c2 c3 c4 : Nat) (size fr cut to lo hi : Int) (w : World)
    (m0 : n0 ≤ maxLen) (m1 : n1 ≤ maxLen) (m2 : n2 ≤ maxLen) (m3 : n3 ≤ maxLen) (m4 : n4 ≤ maxLen) (h : ¬ (n0 ≤ 1024 ∧ n1 ≤ 1024 ∧ n2 ≤ 1024 ∧ n3 ≤ 1024 ∧ n4 ≤ 1024)) :
    Calls Try.prog 4 #[.slice a0 n0 c0, .slice a1 n1 c1, .slice a2 n2 c2, .slice a3 n3 c3, .slice a4 n4 c4, .int .i64 size, .int .i64 fr, .int .i64 cut, .int .i64 to, .int .i64 lo, .int .i64 hi] w fun r w' => r = .returned (.bool true) ∧ Below w.heap.size w w' := by
  unfold maxLen at m0 m1 m2 m3 m4
  go_enter Try.func4, Try.ntmps4
  go_wp2_with (go_at_call 10; go_in)
  all_goals (go_ret; exact ⟨rfl, Below.refl _ _⟩)

set_option maxRecDepth 100000 in
set_option maxHeartbeats 2000000 in
theorem halves_no (a0 a1 a2 a3 a4 : Option Addr) (n0 n1 n2 n3 n4 c0 c1 c2 c3 c4 : Nat) (size fr cut to lo hi : Int) (w : World)
    (m0 : n0 ≤ 1024) (m1 : n1 ≤ 1024) (m2 : n2 ≤ 1024) (m3 : n3 ≤ 1024) (m4 : n4 ≤ 1024) (hl : ¬ (n1 = n0 ∧ n2 = n0 ∧ n3 = n0)) :
    Calls Try.prog 4 #[.slice a0 n0 c0, .slice a1 n1 c1, .slice a2 n2 c2, .slice a3 n3 c3, .slice a4 n4 c4, .int .i64 size, .int .i64 fr, .int .i64 cut, .int .i64 to, .int .i64 lo, .int .i64 hi] w fun r w' => r = .returned (.bool true) ∧ Below w.heap.size w w' := by
  have hf := fit_no a0 a1 a2 a3 n0 n1 n2 n3 c0 c1 c2 c3 w hl
  clear hl
  go_enter Try.func4, Try.ntmps4
  go_wp2_with (go_at_call 10; go_in)
  refine hf.mono ?_
  rintro r w' ⟨rfl, rfl⟩
  go_wp2_with fail
  go_ret
  exact ⟨rfl, Below.refl _ _⟩

set_option maxRecDepth 100000 in
set_option maxHeartbeats 2000000 in
theorem halves_eq (D : Dat) (a0 a1 a2 a3 a4 : Option Addr) (c0 c1 c2 c3 c4 : Nat) (fr cut to lo hi : Int) (w : World)
    (m0 : D.n ≤ 1024) (m4 : D.ns ≤ 1024) (r0 : Rd w a0 D.n D.fl) (r1 : Rd w a1 D.n D.po) (r2 : Rd w a2 D.n D.sz) (r3 : Rd w a3 D.n D.aa) (r4 : Rd w a4 D.ns D.st) (hnil : a4 = none → D.ns = 0 ∧ c4 = 0) :
    Calls Try.prog 4 #[.slice a0 D.n c0, .slice a1 D.n c1, .slice a2 D.n c2, .slice a3 D.n c3, .slice a4 D.ns c4, .int .i64 D.size, .int .i64 fr, .int .i64 cut, .int .i64 to, .int .i64 lo, .int .i64 hi] w fun r w' => r = .returned (.bool true) ∧ Below w.heap.size w w' := by
  have R0 : Hid (Rd w a0 D.n D.fl) := r0
  have R1 : Hid (Rd w a1 D.n D.po) := r1
  have R2 : Hid (Rd w a2 D.n D.sz) := r2
  have R3 : Hid (Rd w a3 D.n D.aa) := r3
  have R4 : Hid (Rd w a4 D.ns D.st) := r4
  clear r0 r1 r2 r3 r4
  have done : Hid (∀ q, Below w.heap.size w (w.drewN q)) := fun q => below_drewN (Below.refl _ _) _
  go_enter Try.func4, Try.ntmps4
  go_wp2_with (go_at_call 10; go_in)
  refine (fit_any a0 a1 a2 a3 D.n c0 c1 c2 c3 D.po D.sz D.aa w m0 R1.out R2.out R3.out).mono ?_
  rintro r w' ⟨b, q, rfl, rfl, hC⟩
  cases b with
  | false =>
    clear hC
    go_wp2_with fail
    go_ret
    exact ⟨rfl, done.out _⟩
  | true =>
    have HC : Hid (∀ i, i < D.n → FitAt D.po D.sz D.aa i) := hC rfl
    clear hC
    by_cases h1 : 0 ≤ lo ∧ lo ≤ hi ∧ hi ≤ (D.n : Int)
    · by_cases h2 : 1 ≤ D.size ∧ D.size ≤ 9223372036854775806
      · by_cases h3 : 0 ≤ fr ∧ fr < cut ∧ cut < to ∧ to ≤ D.size
        · obtain ⟨h11, h12, h13⟩ := h1
          obtain ⟨h21, h22⟩ := h2
          obtain ⟨h31, h32, h33, h34⟩ := h3
          obtain ⟨l, rfl⟩ : ∃ l : Nat, lo = l := ⟨lo.toNat, by omega⟩
          obtain ⟨h, rfl⟩ : ∃ h : Nat, hi = h := ⟨hi.toNat, by omega⟩
          have hsf := sfit_any a4 D.ns c4 D.st D.size (w.drewN q) m4 h21 h22 R4.out
          go_wp2_with fail
          refine hsf.mono ?_
          rintro r w' ⟨b, q2, rfl, rfl, hC2⟩
          clear hsf
          cases b with
          | false =>
            clear hC2
            go_wp2_with fail
            go_ret
            exact ⟨rfl, done.out _⟩
          | true =>
            have ok : Ok D := ok_of m0 m4 HC.out (hC2 rfl) h21
            clear hC2 HC
            have hlh : l ≤ h := by omega
            have hhn : h ≤ D.n := by omega
            have hbd := build_any ok a0 a1 a2 a3 a4 c0 c1 c2 c3 c4 l h (w.drewN (q + q2)) hlh hhn R0.out R1.out R2.out R3.out R4.out hnil
            go_wp2_with fail
            refine hbd.mono ?_
            rintro r w1 ⟨X, P, En, sv, e, rfl, hb1, hL1, hE⟩
            clear hbd R0 R1 R2 R3 R4 hnil
            obtain ⟨sa, sl, sc, rfl⟩ : ∃ sa sl sc, sv = .slice sa sl sc := by
              rcases hL1.slice with ⟨rfl, _⟩ | ⟨S, rfl⟩
              · exact ⟨_, _, _, rfl⟩
              · exact ⟨_, _, _, rfl⟩
            have HB1 : Hid (Below w.heap.size w w1) := (below_drewN (Below.refl _ _) _ : Below w.heap.size w (w.drewN (q + q2))).trans hb1
            have HL1 : Hid (Lst w1 D w1.heap.size X P En (.slice sa sl sc) e) := hL1
            have HE : Hid (∀ f, EndsOK D e f l h) := hE
            clear hb1 hL1 hE done
            go_wp2_with fail
            obtain ⟨w2, hw2⟩ : ∃ w2, w2 = w1.alloc (.cells #[.pointer (some ⟨X, 0, none⟩), .slice sa sl sc] 29) := ⟨_, rfl⟩
            have hb2 : Below w1.heap.size w1 w2 := by rw [hw2]; exact (Below.refl _ _).alloc (Nat.le_refl _) _
            have y0 : w2.cell? ⟨w1.heap.size, 0, none⟩ = some (.pointer (some ⟨X, 0, none⟩)) := by rw [hw2]; simp
            have y1 : w2.cell? ⟨w1.heap.size, 1, none⟩ = some (.slice sa sl sc) := by rw [hw2]; simp
            rw [← hw2]
            clear hw2
            have hL2 : Lst w2 D w2.heap.size X P En (.slice sa sl sc) e := (HL1.out.below hb2).wider hb2.size
            have hB2 : Below w.heap.size w w2 := HB1.out.trans (hb2.mono HB1.out.size)
            refine (lparts_slice ok (L := 1073741824) h31 (by omega : fr < to) h34 l h w2 hlh hhn (HE.out _) hL2 _ _ (run_all ok fr to l h hhn)).mono ?_
            rintro r w3 ⟨s1, k1, rfl, hb3, ps1⟩
            have y0 := keepC hb3 y0
            have y1 := keepC hb3 y1
            have hL3 : Lst w3 D w3.heap.size X P En (.slice sa sl sc) e := (hL2.below hb3).wider hb3.size
            have hB3 : Below w.heap.size w w3 := hB2.trans (hb3.mono hB2.size)
            have P1 : Hid (Ps w3 s1 (all D fr to l h)) := ps1
            have H3 : Hid (Lst w3 D w3.heap.size X P En (.slice sa sl sc) e ∧ Below w.heap.size w w3) := ⟨hL3, hB3⟩
            clear hL2 hB2 hb3 hb2 hL3 hB3 ps1 HL1 HB1
            go_wp2_with fail
            refine (lparts_slice ok (L := 1073741824) h31 h32 (by omega : cut ≤ D.size) l h w3 hlh hhn (HE.out _) H3.out.1 _ _ (run_all ok fr cut l h hhn)).mono ?_
            rintro r w4 ⟨s2, k2, rfl, hb4, ps2⟩
            have y0 := keepC hb4 y0
            have y1 := keepC hb4 y1
            have H4 : Hid (Lst w4 D w4.heap.size X P En (.slice sa sl sc) e ∧ Below w.heap.size w w4) := ⟨(H3.out.1.below hb4).wider hb4.size, H3.out.2.trans (hb4.mono H3.out.2.size)⟩
            have P1' : Hid (Ps w4 s1 (all D fr to l h)) := P1.out.kept hb4
            have P2 : Hid (Ps w4 s2 (all D fr cut l h)) := ps2
            clear hb4 ps2 H3 P1
            go_wp2_with fail
            refine (lparts_slice ok (L := 1073741824) (by omega : 0 ≤ cut) h33 h34 l h w4 hlh hhn (HE.out _) H4.out.1 _ _ (run_all ok cut to l h hhn)).mono ?_
            rintro r w5 ⟨s3, k3, rfl, hb5, ps3⟩
            have P1 : Hid (Ps w5 s1 (all D fr to l h)) := P1'.out.kept hb5
            have P2' : Hid (Ps w5 s2 (all D fr cut l h)) := P2.out.kept hb5
            have P3 : Hid (Ps w5 s3 (all D cut to l h)) := ps3
            have HB5 : Hid (Below w.heap.size w w5) := H4.out.2.trans (hb5.mono H4.out.2.size)
            clear hb5 ps3 H4 P1' P2 y0 y1
            have hsub1 : Hid ((all D fr cut l h).Sublist (all D fr to l h)) := all_sub (hit_left (by omega)) l h
            have hsub2 : Hid ((all D cut to l h).Sublist (all D fr to l h)) := all_sub (hit_right (by omega)) l h
            have hhalf : (all D fr to l h).length ≤ (all D fr cut l h).length + (all D cut to l h).length := all_half ok _ l h (Nat.le_refl _) hhn
            have b1 := all_len_ok ok fr to l h hhn
            have b2 := all_len_ok ok fr cut l h hhn
            have b3 := all_len_ok ok cut to l h hhn
            go_wp2_with fail
            refine (sub_any s2 s1 k2 k1 _ _ w5 b2 b1 P2'.out P1.out hsub1.out).mono ?_
            rintro r w6 ⟨rfl, q6, rfl⟩
            have P1q : Hid (Ps (w5.drewN q6) s1 (all D fr to l h)) := P1.out.kept (below_drewN (Below.refl _ _) _)
            have P3q : Hid (Ps (w5.drewN q6) s3 (all D cut to l h)) := P3.out.kept (below_drewN (Below.refl _ _) _)
            go_wp2_with fail
            refine (sub_any s3 s1 k3 k1 _ _ (w5.drewN q6) b3 b1 P3q.out P1q.out hsub2.out).mono ?_
            rintro r w7 ⟨rfl, q7, rfl⟩
            go_wp2_with fail
            go_ret
            refine ⟨?_, by first | exact below_drewN HB5.out _ | exact below_drewN (below_drewN HB5.out _) _⟩
            show Ending.returned (.bool (decide (((all D fr to l h).length : Int) ≤ ((all D fr cut l h).length : Int) + ((all D cut to l h).length : Int)))) = _
            rw [decide_eq_true (by omega)]
        · go_wp2_with fail
          all_goals (go_ret; exact ⟨rfl, done.out _⟩)
      · go_wp2_with fail
        all_goals (go_ret; exact ⟨rfl, done.out _⟩)
    · go_wp2_with fail
      all_goals (go_ret; exact ⟨rfl, done.out _⟩)

/-- THE LAW AT LENGTHS OF AT MOST 1024. -/
theorem halves_any (a0 a1 a2 a3 a4 : Option Addr) (n0 n1 n2 n3 n4 c0 c1 c2 c3 c4 : Nat) (fl po sz aa st : Nat → Int) (size fr cut to lo hi : Int) (w : World)
    (m0 : n0 ≤ 1024) (m1 : n1 ≤ 1024) (m2 : n2 ≤ 1024) (m3 : n3 ≤ 1024) (m4 : n4 ≤ 1024) (r0 : Rd w a0 n0 fl) (r1 : Rd w a1 n1 po) (r2 : Rd w a2 n2 sz) (r3 : Rd w a3 n3 aa) (r4 : Rd w a4 n4 st) (hnil : a4 = none → n4 = 0 ∧ c4 = 0) :
    Calls Try.prog 4 #[.slice a0 n0 c0, .slice a1 n1 c1, .slice a2 n2 c2, .slice a3 n3 c3, .slice a4 n4 c4, .int .i64 size, .int .i64 fr, .int .i64 cut, .int .i64 to, .int .i64 lo, .int .i64 hi] w fun r w' => r = .returned (.bool true) ∧ Below w.heap.size w w' := by
  by_cases hl : n1 = n0 ∧ n2 = n0 ∧ n3 = n0
  · obtain ⟨rfl, rfl, rfl⟩ := hl
    exact halves_eq { n := n3, ns := n4, fl := fl, po := po, sz := sz, aa := aa, st := st, size := size } a0 a1 a2 a3 a4 c0 c1 c2 c3 c4 fr cut to lo hi w m0 m4 r0 r1 r2 r3 r4 hnil
  · exact halves_no a0 a1 a2 a3 a4 n0 n1 n2 n3 n4 c0 c1 c2 c3 c4 size fr cut to lo hi w m0 m1 m2 m3 m4 hl
end Go.Proofs.Qxb6613536a
