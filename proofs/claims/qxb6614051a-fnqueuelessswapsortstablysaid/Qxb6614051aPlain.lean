import Derived.Test.Qxb6614051aQue
namespace Go.Proofs.Qxb6614051a

/-- s comes before t: by the deadline, then by the seq. -/
def lt (d : Nat → Int) (s t : Nat) : Prop := d s < d t ∨ (d s = d t ∧ s < t)

/-- p names each number under n at most once, and no other. -/
def Perm (n : Nat) (p : Nat → Nat) : Prop := (∀ i, i < n → p i < n) ∧ ∀ i j, i < n → j < n → p i = p j → i = j

/-- At the head of the outer round a. -/
structure Outer (n : Nat) (d : Nat → Int) (a : Nat) (p : Nat → Nat) : Prop where
  perm : Perm n p
  sorted : ∀ x y, x < y → y < a → y < n → lt d (p x) (p y)
  rest : ∀ x, a ≤ x → x < n → p x = x
  low : ∀ x, x < a → x < n → p x < a

/-- At the head of the inner round: the new one stands at b. -/
structure Inner (n : Nat) (d : Nat → Int) (a b : Nat) (p : Nat → Nat) : Prop where
  an : a < n
  ba : b ≤ a
  perm : Perm n p
  at_b : p b = a
  sorted : ∀ x y, x < y → y ≤ a → x ≠ b → y ≠ b → lt d (p x) (p y)
  above : ∀ y, b < y → y ≤ a → d a < d (p y)
  low : ∀ x, x ≤ a → x ≠ b → p x < a
  rest : ∀ x, a < x → x < n → p x = x

theorem outer_start (n : Nat) (d : Nat → Int) : Outer n d 1 (fun i => i) :=
  ⟨⟨fun _ h => h, fun _ _ _ _ h => h⟩, fun x y h1 h2 _ => by omega, fun _ _ _ => rfl, fun x h _ => h⟩

theorem inner_start {n : Nat} {d : Nat → Int} {a : Nat} {p : Nat → Nat} (h : Outer n d a p) (ha : a < n) : Inner n d a a p where
  an := ha
  ba := Nat.le_refl _
  perm := h.perm
  at_b := h.rest a (Nat.le_refl _) ha
  sorted := fun x y h1 h2 _ h4 => h.sorted x y h1 (by omega) (by omega)
  above := fun y h1 h2 => by omega
  low := fun x h1 h2 => h.low x (by omega) (by omega)
  rest := fun x h1 h2 => h.rest x (by omega) h2

theorem sw_perm {n : Nat} {p : Nat → Nat} (h : Perm n p) {i j : Nat} (hi : i < n) (hj : j < n) : Perm n (sw p i j) := by
  have hlt : ∀ x, x < n → (if x = i then j else if x = j then i else x) < n := by
    intro x hx
    by_cases e : x = i
    · simp [e, hj]
    · by_cases e2 : x = j
      · subst e2; simp [e, hi]
      · simp [e, e2, hx]
  have hE : ∀ x, sw p i j x = p (if x = i then j else if x = j then i else x) := by
    intro x; unfold sw
    by_cases e : x = i
    · simp [e]
    · by_cases e2 : x = j
      · subst e2; simp [e]
      · simp [e, e2]
  refine ⟨fun x hx => by rw [hE]; exact h.1 _ (hlt x hx), fun x y hx hy he => ?_⟩
  rw [hE x, hE y] at he
  have he := h.2 _ _ (hlt x hx) (hlt y hy) he
  split at he <;> split at he <;> (try split at he) <;> (try split at he) <;> omega

theorem inner_step {n : Nat} {d : Nat → Int} {a b : Nat} {p : Nat → Nat} (h : Inner n d a b p) (hb : 0 < b) (hd : d (p b) < d (p (b - 1))) : Inner n d a (b - 1) (sw p b (b - 1)) := by
  have an := h.an
  have ba := h.ba
  have e1 : sw p b (b - 1) (b - 1) = a := by unfold sw; rw [if_neg (by omega), if_pos rfl]; exact h.at_b
  have e2 : sw p b (b - 1) b = p (b - 1) := by unfold sw; rw [if_pos rfl]
  have e3 : ∀ x, x ≠ b → x ≠ b - 1 → sw p b (b - 1) x = p x := fun x h1 h2 => by unfold sw; rw [if_neg h1, if_neg h2]
  have hd' : d a < d (p (b - 1)) := by rw [← h.at_b]; exact hd
  refine ⟨an, by omega, sw_perm h.perm (by omega) (by omega), e1, ?_, ?_, ?_, ?_⟩
  · intro x y h1 h2 h3 h4
    by_cases x1 : x = b
    · rw [x1, e2, e3 y (by omega) h4]
      exact h.sorted (b - 1) y (by omega) h2 (by omega) (by omega)
    · rw [e3 x x1 h3]
      by_cases y1 : y = b
      · rw [y1, e2]
        exact h.sorted x (b - 1) (by omega) (by omega) x1 (by omega)
      · rw [e3 y y1 h4]
        exact h.sorted x y h1 h2 x1 y1
  · intro y h1 h2
    by_cases y1 : y = b
    · rw [y1, e2]; exact hd'
    · rw [e3 y y1 (by omega)]; exact h.above y (by omega) h2
  · intro x h1 h2
    by_cases x1 : x = b
    · rw [x1, e2]; exact h.low (b - 1) (by omega) (by omega)
    · rw [e3 x x1 h2]; exact h.low x h1 x1
  · intro x h1 h2
    rw [e3 x (by omega) (by omega)]; exact h.rest x h1 h2

theorem inner_done {n : Nat} {d : Nat → Int} {a b : Nat} {p : Nat → Nat} (h : Inner n d a b p) (hb : 0 < b → ¬ d (p b) < d (p (b - 1))) : Outer n d (a + 1) p := by
  have an := h.an
  have ba := h.ba
  refine ⟨h.perm, ?_, fun x h1 h2 => h.rest x (by omega) h2, ?_⟩
  · intro x y h1 h2 _
    by_cases x1 : x = b
    · left
      rw [x1, h.at_b]
      exact h.above y (by omega) (by omega)
    · by_cases y1 : y = b
      · have hx : p x < a := h.low x (by omega) x1
        have hq := hb (by omega)
        rw [h.at_b] at hq
        rw [y1, h.at_b]
        by_cases x2 : x = b - 1
        · unfold lt; rw [x2] at hx ⊢; omega
        · have hs := h.sorted x (b - 1) (by omega) (by omega) x1 (by omega)
          unfold lt at hs ⊢
          omega
      · exact h.sorted x y h1 (by omega) x1 y1
  · intro x h1 h2
    by_cases x1 : x = b
    · rw [x1, h.at_b]; omega
    · have := h.low x (by omega) x1; omega

/-- Which seqs the first k places name. -/
def seenF (p : Nat → Nat) (k s : Nat) : Bool := (List.range k).any fun x => p x == s
theorem seen_zero (p : Nat → Nat) (s : Nat) : seenF p 0 s = false := rfl
theorem seen_succ (p : Nat → Nat) (k s : Nat) : seenF p (k + 1) s = if s = p k then true else seenF p k s := by
  unfold seenF
  rw [List.range_succ, List.any_append]
  by_cases h : s = p k
  · simp [h]
  · have : ¬ p k = s := fun e => h e.symm
    simp [h, this]
theorem seen_new {n : Nat} {p : Nat → Nat} (h : Perm n p) {k : Nat} (hk : k < n) : seenF p k (p k) = false := by
  unfold seenF
  rw [List.any_eq_false]
  intro x hx e
  have hx := List.mem_range.1 hx
  have := h.2 x k (by omega) hk (by simpa using e)
  omega
end Go.Proofs.Qxb6614051a
