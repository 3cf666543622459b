import Derived.Below
namespace Go.Proofs.Qxb6613536a

/-- A part: file, offset, size, at. -/
abbrev Pt := Int × Int × Int × Int

/-- The pieces and the listings as numbers. -/
structure Dat where
  n : Nat
  ns : Nat
  fl : Nat → Int
  po : Nat → Int
  sz : Nat → Int
  aa : Nat → Int
  st : Nat → Int
  size : Int

def Dat.en (D : Dat) (i : Nat) : Int := D.po i + D.sz i

/-- What the guards of the laws ask. -/
structure Ok (D : Dat) : Prop where
  nb : D.n ≤ 1024
  nsb : D.ns ≤ 1024
  sz1 : ∀ i, i < D.n → 1 ≤ D.sz i
  po0 : ∀ i, i < D.n → 0 ≤ D.po i
  enM : ∀ i, i < D.n → D.po i + D.sz i ≤ 9223372036854775806
  aa0 : ∀ i, i < D.n → 0 ≤ D.aa i
  aaM : ∀ i, i < D.n → D.aa i + D.sz i ≤ 9223372036854775806
  mono : ∀ i j, i ≤ j → j < D.n → D.po i ≤ D.po j
  st0 : ∀ k, k < D.ns → 0 ≤ D.st k
  stM : ∀ k, k < D.ns → D.st k + D.size ≤ 9223372036854775806
  smono : ∀ j k, j ≤ k → k < D.ns → D.st j ≤ D.st k
  size1 : 1 ≤ D.size

/-- Piece i meets the run fr..to of listing k. -/
def hit (D : Dat) (fr to : Int) (i k : Nat) : Bool := decide (D.po i < D.st k + to) && decide (D.st k + fr < D.en i)
def pt (D : Dat) (i k : Nat) : Pt :=
  (D.fl i, max (D.po i) (D.st k) - D.st k, min (D.en i) (D.st k + D.size) - max (D.po i) (D.st k), D.aa i + (max (D.po i) (D.st k) - D.po i))
def rowFrom (D : Dat) (fr to : Int) (i k : Nat) : List Pt := ((List.range' k (D.ns - k)).filter (hit D fr to i)).map (pt D i)
def row (D : Dat) (fr to : Int) (i : Nat) : List Pt := rowFrom D fr to i 0
def all (D : Dat) (fr to : Int) (lo hi : Nat) : List Pt := (List.range' lo (hi - lo)).flatMap (row D fr to)

theorem range'_cons (k n : Nat) (h : k < n) : List.range' k (n - k) = k :: List.range' (k + 1) (n - (k + 1)) := by
  have e : n - k = (n - (k + 1)) + 1 := by omega
  rw [e, List.range'_succ]

theorem rowFrom_hit {D : Dat} {fr to : Int} {i k : Nat} (hk : k < D.ns) (h : hit D fr to i k = true) : rowFrom D fr to i k = pt D i k :: rowFrom D fr to i (k + 1) := by
  unfold rowFrom
  rw [range'_cons k D.ns hk, List.filter_cons, if_pos h, List.map_cons]

theorem rowFrom_miss {D : Dat} {fr to : Int} {i k : Nat} (hk : k < D.ns) (h : hit D fr to i k = false) : rowFrom D fr to i k = rowFrom D fr to i (k + 1) := by
  unfold rowFrom
  rw [range'_cons k D.ns hk, List.filter_cons, if_neg (by simp [h])]

theorem rowFrom_end {D : Dat} {fr to : Int} {i k : Nat} (hk : D.ns ≤ k) : rowFrom D fr to i k = [] := by
  unfold rowFrom
  have e : D.ns - k = 0 := by omega
  rw [e]; rfl

theorem rowFrom_nil {D : Dat} {fr to : Int} {i : Nat} : ∀ (m k : Nat), D.ns - k ≤ m → (∀ j, k ≤ j → j < D.ns → hit D fr to i j = false) → rowFrom D fr to i k = []
  | 0, k, hm, _ => rowFrom_end (by omega)
  | m + 1, k, hm, h => by
    by_cases hk : k < D.ns
    · rw [rowFrom_miss hk (h k (Nat.le_refl _) hk)]
      exact rowFrom_nil m (k + 1) (by omega) (fun j h1 h2 => h j (by omega) h2)
    · exact rowFrom_end (by omega)

/-- Behind the last listing that can meet the piece. -/
theorem rowFrom_past {D : Dat} (ok : Ok D) {fr to : Int} {i k : Nat} (h : k < D.ns → D.en i ≤ D.st k + fr) : rowFrom D fr to i k = [] := by
  by_cases hk : k < D.ns
  · refine rowFrom_nil _ k (Nat.le_refl _) fun j h1 h2 => ?_
    have := h hk
    have := ok.smono k j h1 h2
    unfold hit
    have e : ¬ D.st j + fr < D.en i := by omega
    simp [e]
  · exact rowFrom_end (by omega)

theorem row_skip {D : Dat} {fr to : Int} {i : Nat} : ∀ (k : Nat), k ≤ D.ns → (∀ j, j < k → D.st j + to ≤ D.po i) → row D fr to i = rowFrom D fr to i k
  | 0, _, _ => rfl
  | k + 1, hk, h => by
    rw [row_skip k (by omega) (fun j hj => h j (by omega)), rowFrom_miss (by omega)]
    have := h k (by omega)
    have e : ¬ D.po i < D.st k + to := by omega
    unfold hit
    simp [e]

theorem all_nil {D : Dat} {fr to : Int} {lo hi : Nat} (h : ∀ i, lo ≤ i → i < hi → ∀ k, k < D.ns → hit D fr to i k = false) : all D fr to lo hi = [] := by
  unfold all
  rw [List.flatMap_eq_nil_iff]
  intro i hi'
  rw [List.mem_range'_1] at hi'
  exact rowFrom_nil _ 0 (Nat.le_refl _) (fun j _ hj => h i hi'.1 (by omega) j hj)

theorem all_empty {D : Dat} {fr to : Int} {lo hi : Nat} (h : hi ≤ lo) : all D fr to lo hi = [] := all_nil fun i h1 h2 => by omega

theorem all_cons {D : Dat} {fr to : Int} {lo hi : Nat} (h : lo < hi) : all D fr to lo hi = row D fr to lo ++ all D fr to (lo + 1) hi := by
  unfold all
  rw [range'_cons lo hi h, List.flatMap_cons]

theorem all_split {D : Dat} {fr to : Int} {lo mid hi : Nat} (h1 : lo ≤ mid) (h2 : mid ≤ hi) : all D fr to lo hi = all D fr to lo mid ++ all D fr to mid hi := by
  unfold all
  rw [← List.flatMap_append]
  congr 1
  have e1 : hi - lo = (mid - lo) + (hi - mid) := by omega
  have e2 : mid = lo + (mid - lo) := by omega
  rw [e1, ← List.range'_append]
  simp only [Nat.one_mul]
  rw [← e2]

theorem rowFrom_len {D : Dat} {fr to : Int} {i k : Nat} : (rowFrom D fr to i k).length ≤ D.ns - k := by
  unfold rowFrom
  rw [List.length_map]
  exact Nat.le_trans (List.length_filter_le _ _) (by simp)

theorem all_len {D : Dat} {fr to : Int} : ∀ (m lo hi : Nat), hi - lo ≤ m → (all D fr to lo hi).length ≤ (hi - lo) * D.ns
  | 0, lo, hi, hm => by rw [all_empty (by omega)]; simp
  | m + 1, lo, hi, hm => by
    by_cases h : lo < hi
    · rw [all_cons h, List.length_append]
      have h1 : (row D fr to lo).length ≤ D.ns - 0 := rowFrom_len
      have h2 := all_len (D := D) (fr := fr) (to := to) m (lo + 1) hi (by omega)
      have e : hi - lo = (hi - (lo + 1)) + 1 := by omega
      rw [e, Nat.add_mul, Nat.one_mul]
      omega
    · rw [all_empty (by omega)]; simp

/-! ### The yield that gathers and says stop -/
def run (L : Int) : List Pt → List Pt → List Pt × Bool
  | out, [] => (out, true)
  | out, p :: ps => if ((out.length + 1 : Nat) : Int) < L then run L (out ++ [p]) ps else (out ++ [p], false)

theorem run_nil (L : Int) (out : List Pt) : run L out [] = (out, true) := rfl
theorem run_go {L : Int} {out : List Pt} {p : Pt} {ps : List Pt} (h : ((out.length + 1 : Nat) : Int) < L) : run L out (p :: ps) = run L (out ++ [p]) ps := by rw [run, if_pos h]
theorem run_stop {L : Int} {out : List Pt} {p : Pt} {ps : List Pt} (h : ¬ ((out.length + 1 : Nat) : Int) < L) : run L out (p :: ps) = (out ++ [p], false) := by rw [run, if_neg h]

theorem run_append (L : Int) : ∀ (ps qs out : List Pt), run L out (ps ++ qs) = if (run L out ps).2 = true then run L (run L out ps).1 qs else run L out ps
  | [], qs, out => by simp [run]
  | p :: ps, qs, out => by
    by_cases h : ((out.length + 1 : Nat) : Int) < L
    · rw [List.cons_append, run_go h, run_go h, run_append L ps qs]
    · rw [List.cons_append, run_stop h, run_stop h]; simp

theorem run_len (L : Int) : ∀ (ps out : List Pt), (run L out ps).1.length ≤ out.length + ps.length
  | [], out => by simp [run]
  | p :: ps, out => by
    by_cases h : ((out.length + 1 : Nat) : Int) < L
    · rw [run_go h]
      have := run_len L ps (out ++ [p])
      simp at this ⊢; omega
    · rw [run_stop h]; simp

/-- Where the limit is never come to. -/
theorem run_free (L : Int) : ∀ (ps out : List Pt), ((out.length + ps.length : Nat) : Int) < L → run L out ps = (out ++ ps, true)
  | [], out, _ => by simp [run]
  | p :: ps, out, h => by
    have h1 : ((out.length + 1 : Nat) : Int) < L := by simp at h ⊢; omega
    rw [run_go h1, run_free L ps _ (by simp at h ⊢; omega)]
    simp

/-- What has been gathered is a beginning of what there is. -/
theorem run_spec (L : Int) : ∀ (ps out : List Pt), ∃ m, (run L out ps).1 = out ++ ps.take m ∧
    ((run L out ps).2 = true → m = ps.length ∧ (ps = [] ∨ ((out.length + ps.length : Nat) : Int) < L)) ∧ ((run L out ps).2 = false → 1 ≤ m ∧ m ≤ ps.length ∧ (m = 1 ∨ ((out.length + m : Nat) : Int) = L) ∧ L ≤ ((out.length + m : Nat) : Int))
  | [], out => ⟨0, by simp [run], fun _ => ⟨rfl, Or.inl rfl⟩, fun h => by simp [run] at h⟩
  | p :: ps, out => by
    by_cases h : ((out.length + 1 : Nat) : Int) < L
    · obtain ⟨m, h1, h2, h3⟩ := run_spec L ps (out ++ [p])
      rw [run_go h]
      refine ⟨m + 1, by rw [h1]; simp, fun hb => ?_, fun hb => ?_⟩
      · obtain ⟨e, h4⟩ := h2 hb
        refine ⟨by simp [e], Or.inr ?_⟩
        rcases h4 with h4 | h4
        · subst h4; simpa using h
        · simp at h4 ⊢; omega
      · obtain ⟨e1, e2, e3, e4⟩ := h3 hb
        simp at e3 e4 ⊢
        omega
    · rw [run_stop h]
      refine ⟨1, by simp, fun hb => by simp at hb, fun _ => ⟨Nat.le_refl _, by simp, Or.inl rfl, by omega⟩⟩

/-! ### The tree of ends -/
def EndsOK (D : Dat) (e : Nat → Int) : Nat → Nat → Nat → Prop
  | 0, _, _ => True
  | f + 1, lo, hi => lo < hi → (∀ i, lo ≤ i → i < hi → D.en i ≤ e ((lo + hi) / 2)) ∧ EndsOK D e f lo ((lo + hi) / 2) ∧ EndsOK D e f ((lo + hi) / 2 + 1) hi

theorem EndsOK.congr {D : Dat} {e e' : Nat → Int} : ∀ (f lo hi : Nat), (∀ i, lo ≤ i → i < hi → e i = e' i) → EndsOK D e f lo hi → EndsOK D e' f lo hi
  | 0, _, _, _, _ => trivial
  | f + 1, lo, hi, he, h => fun hlt => by
    obtain ⟨h1, h2, h3⟩ := h hlt
    refine ⟨fun i a b => by rw [← he ((lo + hi) / 2) (by omega) (by omega)]; exact h1 i a b, h2.congr f _ _ (fun i a b => he i (by omega) (by omega)), h3.congr f _ _ (fun i a b => he i (by omega) (by omega))⟩

/-- The tree begins and ends where no listing's run lies. -/
theorem prune {D : Dat} (ok : Ok D) {fr to : Int} {lo hi k : Nat} {x : Int} (hhi : hi ≤ D.n) (h1 : ∀ j, j < k → j < D.ns → D.st j + to ≤ D.po lo) (hx : ∀ i, lo ≤ i → i < hi → D.en i ≤ x) (h2 : k < D.ns → x ≤ D.st k + fr) : all D fr to lo hi = [] := by
  refine all_nil fun i a b j hj => ?_
  have hm := ok.mono lo i a (by omega)
  unfold hit
  by_cases c : j < k
  · have := h1 j c hj
    have e : ¬ D.po i < D.st j + to := by omega
    simp [e]
  · have := h2 (by omega)
    have := ok.smono k j (by omega) hj
    have := hx i a b
    have e : ¬ D.st j + fr < D.en i := by omega
    simp [e]

/-! ### A range and its halves -/
theorem filter_sub {α : Type} (p q : α → Bool) (h : ∀ a, p a = true → q a = true) : ∀ l : List α, (l.filter p).Sublist (l.filter q)
  | [] => by simp
  | a :: t => by
    have ih := filter_sub p q h t
    rw [List.filter_cons, List.filter_cons]
    cases hp : p a with
    | true => rw [if_pos rfl, if_pos (h a hp)]; exact ih.cons_cons a
    | false =>
      rw [if_neg (by simp)]
      split
      · exact ih.cons a
      · exact ih

theorem row_sub {D : Dat} {fr to fr' to' : Int} (h : ∀ i k, hit D fr to i k = true → hit D fr' to' i k = true) (i : Nat) : (row D fr to i).Sublist (row D fr' to' i) := by
  unfold row rowFrom
  apply List.Sublist.map
  exact filter_sub _ _ (fun k hk => h i k hk) _

theorem flatMap_sub {α β : Type} (l : List α) (f g : α → List β) (h : ∀ a, (f a).Sublist (g a)) : (l.flatMap f).Sublist (l.flatMap g) := by
  induction l with
  | nil => simp
  | cons a t ih => rw [List.flatMap_cons, List.flatMap_cons]; exact (h a).append ih

theorem all_sub {D : Dat} {fr to fr' to' : Int} (h : ∀ i k, hit D fr to i k = true → hit D fr' to' i k = true) (lo hi : Nat) : (all D fr to lo hi).Sublist (all D fr' to' lo hi) :=
  flatMap_sub _ _ _ (row_sub h)

theorem hit_left {D : Dat} {fr cut to : Int} (h : cut ≤ to) (i k : Nat) (hh : hit D fr cut i k = true) : hit D fr to i k = true := by
  unfold hit at hh ⊢
  simp at hh ⊢
  omega
theorem hit_right {D : Dat} {fr cut to : Int} (h : fr ≤ cut) (i k : Nat) (hh : hit D cut to i k = true) : hit D fr to i k = true := by
  unfold hit at hh ⊢
  simp at hh ⊢
  omega
theorem hit_half {D : Dat} {fr cut to : Int} (i k : Nat) (hs : 1 ≤ D.sz i) (hh : hit D fr to i k = true) : hit D fr cut i k = true ∨ hit D cut to i k = true := by
  unfold hit Dat.en at hh ⊢
  simp at hh ⊢
  omega

theorem filter_half {α : Type} (p q r : α → Bool) : ∀ (l : List α), (∀ a, p a = true → q a = true ∨ r a = true) → (l.filter p).length ≤ (l.filter q).length + (l.filter r).length
  | [], _ => by simp
  | a :: t, h => by
    have ih := filter_half p q r t h
    have ha := h a
    rw [List.filter_cons, List.filter_cons, List.filter_cons]
    cases hp : p a <;> cases hq : q a <;> cases hr : r a <;> simp_all <;> omega

theorem all_half {D : Dat} (ok : Ok D) {fr cut to : Int} : ∀ (m lo hi : Nat), hi - lo ≤ m → hi ≤ D.n → (all D fr to lo hi).length ≤ (all D fr cut lo hi).length + (all D cut to lo hi).length
  | 0, lo, hi, hm, _ => by rw [all_empty (by omega)]; simp
  | m + 1, lo, hi, hm, hn => by
    by_cases h : lo < hi
    · rw [all_cons h, all_cons h, all_cons h, List.length_append, List.length_append, List.length_append]
      have h2 := all_half ok (fr := fr) (cut := cut) (to := to) m (lo + 1) hi (by omega) hn
      have h1 : (row D fr to lo).length ≤ (row D fr cut lo).length + (row D cut to lo).length := by
        unfold row rowFrom
        rw [List.length_map, List.length_map, List.length_map]
        exact filter_half _ _ _ _ (fun k hk => hit_half lo k (ok.sz1 lo (by omega)) hk)
      omega
    · rw [all_empty (by omega)]; simp
end Go.Proofs.Qxb6613536a
