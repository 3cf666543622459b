import Derived.Test.Qxb6613536aYield
namespace Go.Proofs.Qxb6613536a
open Go.RowKit
set_option linter.unusedVariables false
set_option linter.unusedSimpArgs false

/-- THE LISTING IN MEMORY: X: the piece index; P: its pieces, four cells each; En: its ends; sv: the listings' slice. All below block O. -/
structure Lst (w : World) (D : Dat) (O X P En : Nat) (sv : Value) (e : Nat → Int) : Prop where
  xo : X < O
  po : P < O
  eo : En < O
  so : ∀ k, sv.ownBlock = some k → k < O
  x0 : w.cell? ⟨X, 0, none⟩ = some (.slice (some ⟨P, 0, none⟩) D.n D.n)
  x1 : w.cell? ⟨X, 1, none⟩ = some (.slice (some ⟨En, 0, none⟩) D.n D.n)
  p0 : ∀ i, i < D.n → w.cell? ⟨P, i * 4, none⟩ = some (.int .i64 (D.fl i))
  p1 : ∀ i, i < D.n → w.cell? ⟨P, i * 4 + 1, none⟩ = some (.int .i64 (D.po i))
  p2 : ∀ i, i < D.n → w.cell? ⟨P, i * 4 + 2, none⟩ = some (.int .i64 (D.sz i))
  p3 : ∀ i, i < D.n → w.cell? ⟨P, i * 4 + 3, none⟩ = some (.int .i64 (D.aa i))
  en : ∀ i, i < D.n → w.cell? ⟨En, i, none⟩ = some (.int .i64 (e i))
  st : Sts w sv D.ns D.st

theorem Lst.below {w w' : World} {D : Dat} {O X P En : Nat} {sv : Value} {e : Nat → Int} (h : Lst w D O X P En sv e) (hb : Below O w w') : Lst w' D O X P En sv e where
  xo := h.xo
  po := h.po
  eo := h.eo
  so := h.so
  x0 := (hb.cell (p := ⟨X, 0, none⟩) h.xo).trans h.x0
  x1 := (hb.cell (p := ⟨X, 1, none⟩) h.xo).trans h.x1
  p0 := fun i hi => (hb.cell (p := ⟨P, i * 4, none⟩) h.po).trans (h.p0 i hi)
  p1 := fun i hi => (hb.cell (p := ⟨P, i * 4 + 1, none⟩) h.po).trans (h.p1 i hi)
  p2 := fun i hi => (hb.cell (p := ⟨P, i * 4 + 2, none⟩) h.po).trans (h.p2 i hi)
  p3 := fun i hi => (hb.cell (p := ⟨P, i * 4 + 3, none⟩) h.po).trans (h.p3 i hi)
  en := fun i hi => (hb.cell (p := ⟨En, i, none⟩) h.eo).trans (h.en i hi)
  st := by
    rcases h.st with h1 | ⟨S, e1, h2⟩
    · exact Or.inl h1
    · exact Or.inr ⟨S, e1, fun k hk => (hb.cell (p := ⟨S, k, none⟩) (h.so S (by rw [e1]; rfl))).trans (h2 k hk)⟩

/-- The call of (listing).parts. -/
abbrev pargs (D : Dat) (X O Lb : Nat) (sv : Value) (fr to : Int) (lo hi : Nat) : Array Value :=
  #[.agg #[.pointer (some ⟨X, 0, none⟩), sv], .int .i64 D.size, .int .i64 fr, .int .i64 to, .int .i64 lo, .int .i64 hi, .func (Fn.func 17) #[] #[.pointer (some ⟨O, 0, none⟩), .pointer (some ⟨Lb, 0, none⟩)]]

theorem Lst.slice {w : World} {D : Dat} {O X P En : Nat} {sv : Value} {e : Nat → Int} (h : Lst w D O X P En sv e) : (sv = .slice none 0 0 ∧ D.ns = 0) ∨ ∃ S, sv = .slice (some ⟨S, 0, none⟩) D.ns D.ns := by
  rcases h.st with h1 | ⟨S, e1, _⟩
  · exact Or.inl h1
  · exact Or.inr ⟨S, e1⟩

theorem Lst.starts {w : World} {D : Dat} {O X P En S : Nat} {e : Nat → Int} (h : Lst w D O X P En (.slice (some ⟨S, 0, none⟩) D.ns D.ns) e) {k : Nat} (hk : k < D.ns) : w.cell? ⟨S, k, none⟩ = some (.int .i64 (D.st k)) := by
  rcases h.st with ⟨h1, _⟩ | ⟨S', e1, h2⟩
  · cases h1
  · injection e1 with e1; injection e1 with e1; injection e1 with e1; subst e1; exact h2 k hk

theorem yield_more (O Lb : Nat) (L : Int) (ps : List Pt) (p : Pt) (p1 p2 p3 p4 : Int) (w : World) (hp : (p1, p2, p3, p4) = p) (hO : OutIs w O ps) (hLb : Lb < O) (hl : w.cell? ⟨Lb, 0, none⟩ = some (.int .i64 L)) (hlen : ps.length < 1048576) (hL : ((ps.length + 1 : Nat) : Int) < L) :
    Calls Try.prog 17 #[.agg #[.int .i64 p1, .int .i64 p2, .int .i64 p3, .int .i64 p4], .pointer (some ⟨O, 0, none⟩), .pointer (some ⟨Lb, 0, none⟩)] w fun e w' =>
      e = .returned (.bool true) ∧ Fr O w w' ∧ OutIs w' O (ps ++ [p]) := by
  have h := yield_any O Lb L ps p1 p2 p3 p4 w hO hLb hl hlen
  rw [hp, decide_eq_true hL] at h
  exact h
theorem yield_stop (O Lb : Nat) (L : Int) (ps : List Pt) (p : Pt) (p1 p2 p3 p4 : Int) (w : World) (hp : (p1, p2, p3, p4) = p) (hO : OutIs w O ps) (hLb : Lb < O) (hl : w.cell? ⟨Lb, 0, none⟩ = some (.int .i64 L)) (hlen : ps.length < 1048576) (hL : ¬ ((ps.length + 1 : Nat) : Int) < L) :
    Calls Try.prog 17 #[.agg #[.int .i64 p1, .int .i64 p2, .int .i64 p3, .int .i64 p4], .pointer (some ⟨O, 0, none⟩), .pointer (some ⟨Lb, 0, none⟩)] w fun e w' =>
      e = .returned (.bool false) ∧ Fr O w w' ∧ OutIs w' O (ps ++ [p]) := by
  have h := yield_any O Lb L ps p1 p2 p3 p4 w hO hLb hl hlen
  rw [hp, decide_eq_false hL] at h
  exact h

theorem wrap_at (a s p : Int) (h1 : -9223372036854775808 ≤ a + (s - p)) (h2 : a + (s - p) ≤ 9223372036854775807) : wrap64 (wrap64 (a + s) - p) = a + (s - p) := by
  unfold wrap64
  omega

theorem pt_eq (D : Dat) (i k : Nat) (x y z : Int) (hx : x = max (D.po i) (D.st k) - D.st k) (hy : y = min (D.po i + D.sz i) (D.st k + D.size) - max (D.po i) (D.st k)) (hz : z = D.aa i + (max (D.po i) (D.st k) - D.po i)) : (D.fl i, x, y, z) = pt D i k := by
  subst hx; subst hy; subst hz; rfl

set_option maxRecDepth 100000 in
set_option maxHeartbeats 2000000 in
theorem parts_step {D : Dat} (ok : Ok D) {O X P En Lb S : Nat} {e : Nat → Int} {L fr to : Int} (hfr : 0 ≤ fr) (hft : fr < to) (hto : to ≤ D.size) (hLb : Lb < O)
    (lo hi f : Nat) (w : World) (out : List Pt) (hlo : lo ≤ hi) (hhi : hi ≤ D.n) (hf : hi - lo ≤ f) (hE : EndsOK D e f lo hi) (hL : Lst w D O X P En (.slice (some ⟨S, 0, none⟩) D.ns D.ns) e) (hlim : w.cell? ⟨Lb, 0, none⟩ = some (.int .i64 L)) (hO : OutIs w O out) (hlen : out.length + (hi - lo) * D.ns ≤ 1048576)
    (IH : ∀ (lo' hi' f' : Nat) (w' : World) (out' : List Pt), hi' - lo' < hi - lo → lo' ≤ hi' → hi' ≤ D.n → hi' - lo' ≤ f' → EndsOK D e f' lo' hi' → Lst w' D O X P En (.slice (some ⟨S, 0, none⟩) D.ns D.ns) e → w'.cell? ⟨Lb, 0, none⟩ = some (.int .i64 L) → OutIs w' O out' → out'.length + (hi' - lo') * D.ns ≤ 1048576 →
      Calls Try.prog 16 (pargs D X O Lb (.slice (some ⟨S, 0, none⟩) D.ns D.ns) fr to lo' hi') w' fun r w'' => r = .returned (.bool (run L out' (all D fr to lo' hi')).2) ∧ Fr O w' w'' ∧ OutIs w'' O (run L out' (all D fr to lo' hi')).1) :
    Calls Try.prog 16 (pargs D X O Lb (.slice (some ⟨S, 0, none⟩) D.ns D.ns) fr to lo hi) w fun r w' => r = .returned (.bool (run L out (all D fr to lo hi)).2) ∧ Fr O w w' ∧ OutIs w' O (run L out (all D fr to lo hi)).1 := by
  have hnb := ok.nb
  have hnsb := ok.nsb
  go_enter Try.func16, Try.ntmps16
  go_wp2_with fail
  obtain ⟨w1, hw1⟩ : ∃ w1, w1 = w.alloc (Obj.cells #[Value.pointer (some { block := X, off := 0 }), .slice (some ⟨S, 0, none⟩) D.ns D.ns] 29) := ⟨_, rfl⟩
  have hb1 : Below w.heap.size w w1 := by rw [hw1]; exact (Below.refl _ _).alloc (Nat.le_refl _) _
  have bx0 : w1.cell? ⟨w.heap.size, 0, none⟩ = some (.pointer (some ⟨X, 0, none⟩)) := by rw [hw1]; simp
  have bx1 : w1.cell? ⟨w.heap.size, 1, none⟩ = some (.slice (some ⟨S, 0, none⟩) D.ns D.ns) := by rw [hw1]; simp
  have hOlt := hO.lt
  have bne : w.heap.size ≠ O := by omega
  have bnr : ¬ OutRow w1 O w.heap.size := fun hr => by
    rcases (Fr.of_below hOlt hb1).row _ hr with h | h
    · have := (hO.row h).2; omega
    · obtain ⟨v, h1, h2⟩ := hr
      obtain ⟨v', k1, _, k3⟩ := hO.of_below hb1
      have e1 : v' = v := Option.some.inj (k1.symm.trans h1)
      subst e1
      obtain ⟨v0, j1, _, j3⟩ := hO
      have e2 : v0 = v' := Option.some.inj ((keepC hb1 j1).symm.trans k1)
      subst e2
      have := (j3.lt _ h2).2
      omega
  have hL1 := hL.below (hb1.mono (Nat.le_of_lt hOlt))
  have hlm1 := keepC hb1 hlim
  have hO1 := hO.of_below hb1
  have hF1 : Fr O w w1 := Fr.of_below hOlt hb1
  rw [← hw1]
  have IHH : Hid _ := IH
  have HL1 : Hid _ := hL1
  have HB : Hid _ := bnr
  have hO1x : Hid (OutIs w1 O out) := hO1
  have HLM : Hid (w1.cell? ⟨Lb, 0, none⟩ = some (.int .i64 L)) := hlm1
  clear hw1 IH hL1 bnr
  go_loopg [4] (hi - lo + 1) (fun g s4 wr => ∃ (l : Nat) (o : List Pt) (f : Nat), s4 = .int .i64 l ∧ lo ≤ l ∧ l ≤ hi ∧ hi - l + 1 ≤ g ∧ hi - l ≤ f ∧ Hid (EndsOK D e f l hi) ∧ Hid (Fr O w1 wr) ∧ Hid (OutIs wr O o) ∧ o.length + (hi - l) * D.ns ≤ 1048576 ∧ Hid (run L out (all D fr to lo hi) = run L o (all D fr to l hi)))
  case atStart => exact ⟨lo, out, f, rfl, Nat.le_refl _, hlo, Nat.le_refl _, hf, hE, Fr.refl _ _, hO1, hlen, rfl⟩
  case round =>
    obtain ⟨l, o, f, rfl, hl1, hl2, hg, hf2, hE2, hFr, hOr, hlen2, HR⟩ := hrel
    by_cases hlt : l < hi
    · have hbO := (hFr.out).below hO1
      have hLr := HL1.out.below hbO
      have y0 := hFr.out.cell bx0 bne HB.out
      have y1 := hFr.out.cell bx1 bne HB.out
      have hOr2 := hOr.out.lt
      have lb : (l : Int) < (D.n : Int) := by omega
      have l0 : (0 : Int) ≤ (l : Int) := by omega
      have c0 := hLr.x0
      have c1 := hLr.p1 l (by omega)
      have hst := hLr.st
      have HLr : Hid _ := hLr
      clear hLr
      have hBr := Below.refl wr.heap.size wr
      obtain ⟨mid, hmid, HM⟩ : ∃ mid : Nat, ((l : Int) + (hi : Int)) / 2 = (mid : Int) ∧ Hid (mid = (l + hi) / 2) := ⟨(l + hi) / 2, by omega, rfl⟩
      have m1 : l ≤ mid := by have := HM.out; omega
      have m2 : mid < hi := by have := HM.out; omega
      have mb : (mid : Int) < (D.n : Int) := by omega
      have mb0 : (0 : Int) ≤ (mid : Int) := by omega
      go_wp2_with fail
      clear hmid
      go_region_held3 (fun w' => Below wr.heap.size wr w' ∧ w'.cell? ⟨w.heap.size, 0, none⟩ = some (.pointer (some ⟨X, 0, none⟩)) ∧ w'.cell? ⟨w.heap.size, 1, none⟩ = some (.slice (some ⟨S, 0, none⟩) D.ns D.ns) ∧
          w'.cell? ⟨X, 0, none⟩ = some (.slice (some ⟨P, 0, none⟩) D.n D.n) ∧ w'.cell? ⟨P, l * 4 + 1, none⟩ = some (.int .i64 (D.po l)) ∧ Sts w' (.slice (some ⟨S, 0, none⟩) D.ns D.ns) D.ns D.st)
        (first | exact ⟨hBr.drew, y0, y1, c0, c1, hst⟩ | (go_split_ands; exact ⟨keepB (by assumption) hlast, keepC hlast (by assumption), keepC hlast (by assumption), keepC hlast (by assumption), keepC hlast (by assumption), Sts.below (by assumption) hlast⟩))
        (first
          | (go_at_call 18; go_split_ands; refine (first_any _ _ D.ns D.st to (D.po l) _ hnsb ok.st0 (by omega) (fun k hk => by have := ok.stM k hk; omega) ok.smono (by assumption) rfl).mono ?_; rintro e w' ⟨⟨k, rfl, hk1, hk2, hk3⟩, hlast⟩))
      have hb2 : Below wr.heap.size wr w' := (Below.drew (Below.refl _ _)).trans hlast
      clear hlast
      go_split_ands
      clear hBr c0 c1 hst y0
      have hOx := hOr.out.of_below hb2
      have hF2 : Hid (Fr O w1 w') := hFr.out.trans (Fr.of_below hOr2 hb2)
      have y1' := keepC hb2 y1
      have hLx := HLr.out.below (hb2.mono (Nat.le_of_lt hOr2))
      have z1 := hLx.x1
      have z2 := hLx.en mid (by omega)
      have k0 : (0 : Int) ≤ (k : Int) := by omega
      obtain ⟨f', rfl⟩ : ∃ f', f = f' + 1 := ⟨f - 1, by omega⟩
      have hEE := hE2.out hlt
      rw [← HM.out] at hEE
      obtain ⟨hEx, hEl, hEr⟩ := hEE
      have HEx : Hid _ := hEx
      have HEl : Hid _ := hEl
      have HEr : Hid _ := hEr
      have HLx : Hid (Lst w' D O X P En (.slice (some ⟨S, 0, none⟩) D.ns D.ns) e) := hLx
      have HOx : Hid (OutIs w' O o) := hOx
      clear hEx hEl hEr hLx hOx hE2 hFr hOr HLr hbO y1 hE hL hO hO1 hf hlim
      have fin0 : Hid (all D fr to l hi = [] → run L out (all D fr to lo hi) = (o, true)) := fun h => by rw [HR.out, h]; rfl
      by_cases hkn : k = D.ns
      · have hke : ((k : Int) == (D.ns : Int)) = true := by simp [hkn]
        have hpr : Hid (all D fr to l hi = []) := prune ok hhi (k := k) (x := e mid) (fun j h1 h2 => hk2 j h1) HEx.out (fun h => by omega)
        clear hkn hk2 hk3
        go_wp2_with fail
        go_quiet (fail)
        go_wp2_with fail
        go_ret
        rw [fin0.out hpr.out]
        exact ⟨rfl, hF1.trans (Fr.trans hF2.out (Fr.of_below HOx.out.lt (below_drewN (Below.refl _ _) _))), HOx.out.of_below (below_drewN (Below.refl _ _) _)⟩
      · have hke : ((k : Int) == (D.ns : Int)) = false := by
          have h : ¬ (k : Int) = (D.ns : Int) := by omega
          simpa using h
        have hkb : (k : Int) < (D.ns : Int) := by omega
        have z3 := HLx.out.starts (k := k) (by omega)
        have hs1 := ok.stM k (by omega)
        have hs0 := ok.st0 k (by omega)
        by_cases hpr : e mid ≤ D.st k + fr
        · have hpr2 : Hid (all D fr to l hi = []) := prune ok hhi (k := k) (x := e mid) (fun j h1 h2 => hk2 j h1) HEx.out (fun h => hpr)
          clear hkn hk2 hk3
          go_wp2_with fail
          go_quiet (fail)
          go_wp2_with fail
          go_ret
          rw [fin0.out hpr2.out]
          exact ⟨rfl, hF1.trans (Fr.trans hF2.out (Fr.of_below HOx.out.lt (below_drewN (Below.refl _ _) _))), HOx.out.of_below (below_drewN (Below.refl _ _) _)⟩
        · clear hkn hk2 hk3
          go_wp2_with fail
          go_quiet (fail)
          go_wp2_with fail
          have hbq : Below w'.heap.size w' (w'.drewN nq) := below_drewN (Below.refl _ _) _
          have hOq := HOx.out.of_below hbq
          have hLq := HLx.out.below (hbq.mono (Nat.le_of_lt HOx.out.lt))
          have hFq : Fr O w1 (w'.drewN nq) := hF2.out.trans (Fr.of_below HOx.out.lt hbq)
          have hlq : (w'.drewN nq).cell? ⟨Lb, 0, none⟩ = some (.int .i64 L) := ((hFq.below hO1x.out).cell (p := ⟨Lb, 0, none⟩) hLb).trans hlm1
          have hmul : (mid - l) * D.ns ≤ (hi - l) * D.ns := Nat.mul_le_mul_right _ (by omega)
          have hih := IHH.out l mid f' (w'.drewN nq) o (by omega) m1 (by omega) (by omega) HEl.out hLq hlq hOq (by omega)
          clear hlm1 y1' z1 z2 z3 hs1 hs0 hke hkb hpr HLx HOx HEl hF2 hb2
          obtain ⟨o1, b1, hrun⟩ : ∃ o1 b1, run L o (all D fr to l mid) = (o1, b1) := ⟨_, _, rfl⟩
          rw [hrun] at hih
          have hsplit : Hid (run L out (all D fr to lo hi) = if b1 = true then run L o1 (all D fr to mid hi) else (o1, b1)) := by
            unfold Hid
            rw [HR.out, all_split m1 (Nat.le_of_lt m2), run_append, hrun]
          have hol : o1.length ≤ o.length + (mid - l) * D.ns := by
            have h1 := run_len L (all D fr to l mid) o
            rw [hrun] at h1
            have h2 := all_len (D := D) (fr := fr) (to := to) _ l mid (Nat.le_refl _)
            have h3 : (o1, b1).1.length = o1.length := rfl
            omega
          clear hrun fin0 HR
          refine hih.mono ?_
          rintro r w3 ⟨rfl, hF3, hO3⟩
          have hL3 := hLq.below (hF3.below hOq)
          have hF13 := hFq.trans hF3
          have HL3 : Hid (Lst w3 D O X P En (.slice (some ⟨S, 0, none⟩) D.ns D.ns) e) := hL3
          have HF13 : Hid (Fr O w1 w3) := hF13
          have HO3 : Hid (OutIs w3 O o1) := hO3
          clear hih hLq hOq hFq hlq hbq hF3
          cases b1 with
          | false =>
            go_wp2_with fail
            go_ret
            rw [hsplit.out, if_neg (by simp)]
            exact ⟨rfl, hF1.trans HF13.out, HO3.out⟩
          | true =>
            have c0 := hL3.x0
            have d0 := hL3.p0 mid (by omega)
            have d1 := hL3.p1 mid (by omega)
            have d2 := hL3.p2 mid (by omega)
            have d3 := hL3.p3 mid (by omega)
            have e1 := ok.enM mid (by omega)
            have e2 := ok.po0 mid (by omega)
            have e3 := ok.sz1 mid (by omega)
            have y0 := hF13.cell bx0 bne HB.out
            have y1 := hF13.cell bx1 bne HB.out
            have blt : w.heap.size < w3.heap.size := lt_of_cell y0
            clear hL3 hF13 hO3
            go_wp2_with fail
            clear c0 d0 d1 d2 d3
            obtain ⟨w3a, hw3a⟩ : ∃ w3a, w3a = w3.alloc (Obj.cells #[Value.int IntKind.i64 (D.fl mid), Value.int IntKind.i64 (D.po mid), Value.int IntKind.i64 (D.sz mid), Value.int IntKind.i64 (D.aa mid)] 40) := ⟨_, rfl⟩
            have hb3a : Below w3.heap.size w3 w3a := by rw [hw3a]; exact (Below.refl _ _).alloc (Nat.le_refl _) _
            have q0 : w3a.cell? ⟨w3.heap.size, 0, none⟩ = some (.int .i64 (D.fl mid)) := by rw [hw3a]; simp
            have q1 : w3a.cell? ⟨w3.heap.size, 1, none⟩ = some (.int .i64 (D.po mid)) := by rw [hw3a]; simp
            have q2 : w3a.cell? ⟨w3.heap.size, 2, none⟩ = some (.int .i64 (D.sz mid)) := by rw [hw3a]; simp
            have q3 : w3a.cell? ⟨w3.heap.size, 3, none⟩ = some (.int .i64 (D.aa mid)) := by rw [hw3a]; simp
            rw [← hw3a]
            clear hw3a
            have hO3a := HO3.out.of_below hb3a
            have hL3a := HL3.out.below (hb3a.mono (Nat.le_of_lt HO3.out.lt))
            refine (first_any _ _ D.ns D.st to (D.po mid) _ hnsb ok.st0 (by omega) (fun k hk => by have := ok.stM k hk; omega) ok.smono hL3a.st rfl).mono ?_
            rintro r w4 ⟨⟨k0, rfl, hk1, hk2, hk3⟩, hb4⟩
            have hb34 : Below w3.heap.size w3 w4 := keepB hb3a hb4
            have hO4 := HO3.out.of_below hb34
            have hL4 : Hid (Lst w4 D O X P En (.slice (some ⟨S, 0, none⟩) D.ns D.ns) e) := HL3.out.below (hb34.mono (Nat.le_of_lt HO3.out.lt))
            have hF14 : Hid (Fr O w1 w4) := HF13.out.trans (Fr.of_below HO3.out.lt hb34)
            have q0 := keepC hb4 q0
            have q1 := keepC hb4 q1
            have q2 := keepC hb4 q2
            have q3 := keepC hb4 q3
            have hnr : Hid (¬ OutRow w4 O w3.heap.size) := fun hr => by
              rcases (Fr.of_below HO3.out.lt hb34).row _ hr with h | h
              · have := (HO3.out.row h).2; omega
              · obtain ⟨v, h1, h2⟩ := hr
                obtain ⟨v0, j1, _, j3⟩ := HO3.out
                have e2 : v0 = v := Option.some.inj ((keepC hb34 j1).symm.trans h1)
                subst e2
                have := (j3.lt _ h2).2
                omega
            have hO3lt := HO3.out.lt
            have pne : w3.heap.size ≠ O := by omega
            have HO4 : Hid (OutIs w4 O o1) := hO4
            have y1 := keepC hb34 y1
            have HB4 : Hid (¬ OutRow w4 O w.heap.size) := fun hr => by
              rcases hF14.out.row _ hr with h | h
              · exact HB.out h
              · have := lt_of_cell bx0; omega
            have HQ : Hid (run L out (all D fr to lo hi) = run L o1 (rowFrom D fr to mid k0 ++ all D fr to (mid + 1) hi)) := by
              unfold Hid
              rw [hsplit.out]
              simp only [if_true]
              rw [all_cons m2, row_skip k0 hk1 hk2]
            have hbud : o1.length + D.ns + (hi - (mid + 1)) * D.ns ≤ 1048576 := by
              have h1 : hi - l = (mid - l) + (1 + (hi - (mid + 1))) := by omega
              rw [h1, Nat.add_mul, Nat.add_mul, Nat.one_mul] at hlen2
              omega
            have HK3 : Hid (∀ k, k0 ≤ k → k < D.ns → D.po mid < D.st k + to) := fun k h1 h2 => by
              have := hk3 (by omega)
              have := ok.smono k0 k h1 h2
              omega
            clear hb34 hb4 hb3a hO3a hL3a hO4 hsplit hk2 hk3 HO3 HL3 HF13 hmul hol
            go_wp2_with fail
            go_loopg [20] (D.ns + 1) (fun g s20 wi => ∃ (k : Nat) (o2 : List Pt), s20 = .int .i64 k ∧ k0 ≤ k ∧ k ≤ D.ns ∧ D.ns - k + 1 ≤ g ∧ Hid (Fr O w4 wi) ∧ Hid (OutIs wi O o2) ∧ o2.length + (D.ns - k) + (hi - (mid + 1)) * D.ns ≤ 1048576 ∧ Hid (run L out (all D fr to lo hi) = run L o2 (rowFrom D fr to mid k ++ all D fr to (mid + 1) hi)))
            case atStart => exact ⟨k0, o1, rfl, Nat.le_refl _, hk1, by omega, Fr.refl _ _, HO4.out, by omega, HQ.out⟩
            case round =>
              obtain ⟨k, o2, rfl, hk0, hkn, hg3, hFi, hOi, hbud2, HQ2⟩ := hrel
              have hbi := hFi.out.below HO4.out
              have hLi := hL4.out.below hbi
              have v1 := hFi.out.cell y1 bne HB4.out
              have r0 := hFi.out.cell q0 pne hnr.out
              have r1 := hFi.out.cell q1 pne hnr.out
              have r2 := hFi.out.cell q2 pne hnr.out
              have r3 := hFi.out.cell q3 pne hnr.out
              have kz : (0 : Int) ≤ (k : Int) := by omega
              have HLi : Hid (Lst wr D O X P En (.slice (some ⟨S, 0, none⟩) D.ns D.ns) e) := hLi
              clear hLi hbi q0 q1 q2 q3 y0 y1
              by_cases hk : k < D.ns
              · have kb : (k : Int) < (D.ns : Int) := by omega
                have cS := HLi.out.starts hk
                have s0 := ok.st0 k hk
                have sM := ok.stM k hk
                by_cases ht : D.st k + fr < D.po mid + D.sz mid
                · have hhit : Hid (hit D fr to mid k = true) := by
                    have := HK3.out k hk0 hk
                    unfold Hid hit Dat.en
                    simp [this, ht]
                  have HQ3 : Hid (run L out (all D fr to lo hi) = run L o2 (pt D mid k :: (rowFrom D fr to mid (k + 1) ++ all D fr to (mid + 1) hi))) := by
                    unfold Hid
                    rw [HQ2.out, rowFrom_hit hk hhit.out, List.cons_append]
                  have hlr : wr.cell? ⟨Lb, 0, none⟩ = some (.int .i64 L) := ((Fr.below (hF14.out.trans hFi.out) hO1x.out).cell (p := ⟨Lb, 0, none⟩) hLb).trans HLM.out
                  have hlrx : Lb < wr.heap.size := lt_of_cell hlr
                  have a0 := ok.aa0 mid (by omega)
                  have aM := ok.aaM mid (by omega)
                  by_cases hLL : ((o2.length + 1 : Nat) : Int) < L
                  · have HLL : Hid (((o2.length + 1 : Nat) : Int) < L) := hLL
                    clear hLL HQ2
                    go_wp2_with fail
                    all_goals
                      refine (yield_more O Lb L o2 (pt D mid k) _ _ _ _ _ ?_ (hOi.out.of_below ((Below.refl _ _).alloc (Nat.le_refl _) _)) hLb ((World.cell?_alloc_past _ _ _ hlrx).trans hlr) (by omega) HLL.out).mono ?_
                      · refine pt_eq D mid k _ _ _ ?_ ?_ ?_
                        · omega
                        · omega
                        · refine (wrap_at _ _ _ ?_ ?_).trans ?_ <;> omega
                      · rintro r w5 ⟨rfl, hF5, hO5⟩
                        have HF5 : Hid (Fr O w4 w5) := hFi.out.trans ((Fr.of_below hOi.out.lt ((Below.refl _ _).alloc (Nat.le_refl _) _)).trans hF5)
                        have HO5 : Hid (OutIs w5 O (o2 ++ [pt D mid k])) := hO5
                        clear hF5 hO5
                        go_wp2_with fail
                        go_roundg (D.ns - (k + 1) + 1)
                        case measure => omega
                        case rel => exact ⟨k + 1, o2 ++ [pt D mid k], by go_num, by omega, by omega, Nat.le_refl _, HF5.out, HO5.out, by simp; omega, by rw [HQ3.out, run_go HLL.out]; rfl⟩
                  · have HLL : Hid (¬ ((o2.length + 1 : Nat) : Int) < L) := hLL
                    clear hLL HQ2
                    go_wp2_with fail
                    all_goals
                      refine (yield_stop O Lb L o2 (pt D mid k) _ _ _ _ _ ?_ (hOi.out.of_below ((Below.refl _ _).alloc (Nat.le_refl _) _)) hLb ((World.cell?_alloc_past _ _ _ hlrx).trans hlr) (by omega) (by have := HLL.out; omega)).mono ?_
                      · refine pt_eq D mid k _ _ _ ?_ ?_ ?_
                        · omega
                        · omega
                        · refine (wrap_at _ _ _ ?_ ?_).trans ?_ <;> omega
                      · rintro r w5 ⟨rfl, hF5, hO5⟩
                        have HF5 : Hid (Fr O w4 w5) := hFi.out.trans ((Fr.of_below hOi.out.lt ((Below.refl _ _).alloc (Nat.le_refl _) _)).trans hF5)
                        have HO5 : Hid (OutIs w5 O (o2 ++ [pt D mid k])) := hO5
                        clear hF5 hO5
                        go_wp2_with fail
                        go_ret
                        rw [HQ3.out, run_stop (by have := HLL.out; omega)]
                        exact ⟨rfl, hF1.trans (hF14.out.trans HF5.out), HO5.out⟩
                · have hnil : Hid (rowFrom D fr to mid k = []) := rowFrom_past ok (fun _ => Int.not_lt.1 ht)
                  go_wp2_with fail
                  go_roundg (hi - (mid + 1) + 1)
                  case measure => omega
                  case rel => exact ⟨mid + 1, o2, f', by go_num, by omega, by omega, Nat.le_refl _, by omega, HEr.out, hF14.out.trans hFi.out, hOi.out, by omega, by rw [HQ2.out, hnil.out, List.nil_append]; rfl⟩
              · have hnil : Hid (rowFrom D fr to mid k = []) := rowFrom_end (by omega)
                go_wp2_with fail
                go_roundg (hi - (mid + 1) + 1)
                case measure => omega
                case rel => exact ⟨mid + 1, o2, f', by go_num, by omega, by omega, Nat.le_refl _, by omega, HEr.out, hF14.out.trans hFi.out, hOi.out, by omega, by rw [HQ2.out, hnil.out, List.nil_append]; rfl⟩
    · go_wp2_with fail
      go_ret
      obtain rfl : l = hi := by omega
      rw [HR.out, all_empty (Nat.le_refl _), run_nil]
      exact ⟨rfl, hF1.trans hFr.out, hOr.out⟩
end Go.Proofs.Qxb6613536a
