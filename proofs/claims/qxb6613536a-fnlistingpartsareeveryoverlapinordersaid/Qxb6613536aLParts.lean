import Derived.Test.Qxb6613536aListing
namespace Go.Proofs.Qxb6613536a
open Go.RowKit
set_option linter.unusedVariables false
set_option linter.unusedSimpArgs false

theorem Lst.wider {w : World} {D : Dat} {O O' X P En : Nat} {sv : Value} {e : Nat → Int} (h : Lst w D O X P En sv e) (hO : O ≤ O') : Lst w D O' X P En sv e :=
  { h with xo := Nat.lt_of_lt_of_le h.xo hO, po := Nat.lt_of_lt_of_le h.po hO, eo := Nat.lt_of_lt_of_le h.eo hO, so := fun k hk => Nat.lt_of_lt_of_le (h.so k hk) hO }

set_option maxHeartbeats 1000000 in
theorem lparts_any {D : Dat} (ok : Ok D) {X P En : Nat} {sv : Value} {e : Nat → Int} {L fr to : Int} (hfr : 0 ≤ fr) (hft : fr < to) (hto : to ≤ D.size)
    (lo hi : Nat) (w : World) (hlo : lo ≤ hi) (hhi : hi ≤ D.n) (hE : EndsOK D e (hi - lo) lo hi) (hL : Lst w D w.heap.size X P En sv e) :
    Calls Try.prog 9 #[.agg #[.pointer (some ⟨X, 0, none⟩), sv], .int .i64 D.size, .int .i64 fr, .int .i64 to, .int .i64 lo, .int .i64 hi, .int .i64 L] w fun r w' =>
      ∃ v, r = .returned (.tuple #[v, .bool (run L [] (all D fr to lo hi)).2]) ∧ Below w.heap.size w w' ∧ w'.ownsRow w.heap.size 35 4 v (run L [] (all D fr to lo hi)).1.length (flat (run L [] (all D fr to lo hi)).1) := by
  have hsv : sv.oneCell' = true := by
    rcases hL.st with ⟨rfl, _⟩ | ⟨S, rfl, _⟩ <;> rfl
  go_enter Try.func9, Try.ntmps9
  go_wp2_with fail
  have hb3 : Below w.heap.size w (((w.alloc (Obj.cells #[Value.pointer (some { block := X, off := 0 }), sv] 29)).alloc (Obj.cells #[Value.int IntKind.i64 L] 3)).alloc (Obj.cells #[Value.slice none 0 0] 31)) :=
    (((Below.refl _ _).alloc (Nat.le_refl _) _).alloc (by simp) _).alloc (by simp; omega) _
  have h3 := three w #[Value.pointer (some { block := X, off := 0 }), sv] #[Value.int IntKind.i64 L] #[Value.slice none 0 0] 29 3 31
  have hfz : (((w.alloc (Obj.cells #[Value.pointer (some { block := X, off := 0 }), sv] 29)).alloc (Obj.cells #[Value.int IntKind.i64 L] 3)).alloc (Obj.cells #[Value.slice none 0 0] 31)).frozen? ⟨w.heap.size + 1 + 1, 0, none⟩ = false := World.frozen?_alloc_at _ _ _ _ (by simp)
  generalize ((w.alloc (Obj.cells #[Value.pointer (some { block := X, off := 0 }), sv] 29)).alloc (Obj.cells #[Value.int IntKind.i64 L] 3)).alloc (Obj.cells #[Value.slice none 0 0] 31) = w1 at hb3 h3 hfz ⊢
  have hO : OutIs w1 (w.heap.size + 1 + 1) [] := ⟨.slice none 0 0, (h3 0).2.2.trans rfl, hfz, World.ownsRow_nil _ _ _ _⟩
  have hL1 : Lst w1 D (w.heap.size + 1 + 1) X P En sv e := (hL.below hb3).wider (by omega)
  have hnn : (hi - lo) * D.ns ≤ 1024 * 1024 := Nat.mul_le_mul (by have := ok.nb; omega) ok.nsb
  refine (parts_any ok hfr hft hto (Nat.lt_succ_self _) (hi - lo) lo hi (hi - lo) w1 [] (Nat.le_refl _) hlo hhi (Nat.le_refl _) hE hL1 ((h3 0).2.1.trans rfl) hO (by simp; omega)).mono ?_
  rintro r w2 ⟨rfl, hF, hO2⟩
  have hB : Hid (Below w.heap.size w w2) := hb3.trans ((hF.below hO).mono (by omega))
  obtain ⟨v, cv, _, hown⟩ := hO2
  have HO : Hid (w2.ownsRow (w.heap.size + 1 + 1 + 1) 35 4 v (run L [] (all D fr to lo hi)).1.length (flat (run L [] (all D fr to lo hi)).1)) := hown
  obtain ⟨b, hb⟩ : ∃ b, (run L [] (all D fr to lo hi)).2 = b := ⟨_, rfl⟩
  rw [hb]
  have Hb : Hid ((run L [] (all D fr to lo hi)).2 = b) := hb
  clear hb hown h3 hfz hO hL1 hF
  go_wp2_with fail
  go_ret2
  refine ⟨v, by rw [Hb.out]; rfl, hB.out, ?_⟩
  obtain ⟨o1, o2⟩ := HO.out
  refine ⟨o1, ?_⟩
  rcases o2 with o2 | ⟨g, cap, cur, a1, a2, a3⟩
  · exact Or.inl o2
  · exact Or.inr ⟨g, cap, cur, a1, by omega, a3⟩
end Go.Proofs.Qxb6613536a
