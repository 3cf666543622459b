import Derived.Test.Qxb6614051aRows
import Derived.WalkKit
import Derived.WalkSpells
import Derived.Below
import Derived.Laws.BitsAllLaws
import Derived.Laws.ResultCell
namespace Go.Proofs.Qxb6614051a
open Go.RowKit

/-! ### The bits of a wall word that holds nanoseconds alone -/
theorem and_lo (n : Int) (h0 : 0 ≤ n) (h1 : n < 1000000000) : bits .and .u64 n 1073741823 = n := by
  rw [u64_and n 1073741823 h0 (by omega) (by omega) (by omega)]
  have e : n.toNat &&& (1073741823 : Int).toNat = n.toNat % 2 ^ 30 := Nat.and_two_pow_sub_one_eq_mod n.toNat 30
  rw [e, Nat.mod_eq_of_lt (by omega)]
  omega
theorem and_hi (n : Int) (h0 : 0 ≤ n) (h1 : n < 1000000000) : bits .and .u64 n 9223372036854775808 = 0 := by
  rw [u64_and n 9223372036854775808 h0 (by omega) (by omega) (by omega)]
  have e : n.toNat &&& (9223372036854775808 : Int).toNat = n.toNat / 2 ^ 63 % 2 * 2 ^ 63 := nat_bit 63 n.toNat
  rw [e, Nat.div_eq_of_lt (by omega)]
  rfl
theorem and_hi2 (n m : Int) (h0 : 0 ≤ n) (h1 : n < 1000000000) (k0 : 0 ≤ m) (k1 : m < 1000000000) : (bits .and .u64 (bits .and .u64 n m) 9223372036854775808 != 0) = false := by
  have e := u64_and n m h0 (by omega) k0 (by omega)
  have hle : n.toNat &&& m.toNat ≤ n.toNat := Nat.and_le_left
  rw [e, and_hi _ (by omega) (by omega)]
  rfl
theorem hi_no (n : Int) (h0 : 0 ≤ n) (h1 : n < 1000000000) : (bits .and .u64 n 9223372036854775808 != 0) = false := by
  rw [and_hi n h0 h1]; rfl
theorem or_lo (n : Int) (h0 : 0 ≤ n) (h1 : n < 1000000000) : bits .or .u64 (bits .andNot .u64 0 1073741823) n = n := by
  have e : bits .andNot .u64 0 1073741823 = 0 := by decide +kernel
  rw [e, u64_or 0 n (by omega) (by omega) h0 (by omega)]
  simp
  omega

set_option maxHeartbeats 400000 in
theorem nsec_any (a : Addr) (n : Int) (w : World) (h0 : 0 ≤ n) (h1 : n < 1000000000) (hc : w.cell? a = some (.int .u64 n)) :
    Calls Try.prog 15 #[.pointer (some a)] w fun e w' => e = .returned (.int .i32 n) ∧ w' = w := by
  have hb := and_lo n h0 h1
  go_enter Try.func15, Try.ntmps15
  go_wp2
  go_ret
  exact ⟨rfl, rfl⟩

set_option maxHeartbeats 400000 in
theorem sec_any (b o : Nat) (n s : Int) (w : World) (h0 : 0 ≤ n) (h1 : n < 1000000000) (hc : w.cell? ⟨b, o, none⟩ = some (.int .u64 n)) (hd : w.cell? ⟨b, o + 1, none⟩ = some (.int .i64 s)) :
    Calls Try.prog 18 #[.pointer (some ⟨b, o, none⟩)] w fun e w' => e = .returned (.int .i64 s) ∧ w' = w := by
  have hb := hi_no n h0 h1
  go_enter Try.func18, Try.ntmps18
  go_wp2
  go_ret
  exact ⟨rfl, rfl⟩

set_option maxHeartbeats 400000 in
theorem addSec_any (b o : Nat) (n d : Int) (w : World) (h0 : 0 ≤ n) (h1 : n < 1000000000) (hd1 : -10000000000 ≤ d) (hd2 : d ≤ 10000000000) (hc : w.cell? ⟨b, o, none⟩ = some (.int .u64 n)) (hd : w.cell? ⟨b, o + 1, none⟩ = some (.int .i64 0))
    (hz : w.frozen? ⟨b, o + 1, none⟩ = false) :
    Calls Try.prog 16 #[.pointer (some ⟨b, o, none⟩), .int .i64 d] w fun e w' => e = .returned (.tuple #[]) ∧ w' = w.setCell ⟨b, o + 1, none⟩ (.int .i64 d) := by
  have hb := hi_no n h0 h1
  by_cases hp : 0 < d
  all_goals
    go_enter Try.func16, Try.ntmps16
    go_wp2
    go_end0
    exact ⟨rfl, rfl⟩

theorem div_lo (d : Int) (h : (Lit.int .i64 d).wf = true) : -9223372036854775808 ≤ d ∧ d ≤ 9223372036854775807 := by
  simpa [Lit.wf, IntKind.min, IntKind.max, IntKind.bits, IntKind.signed] using h

theorem tdiv_neg (d : Int) (h : d < 0) : d.tdiv 1000000000 = -((-d) / 1000000000) ∧ d.tmod 1000000000 = -((-d) % 1000000000) := by
  have e : d = -(-d) := by omega
  constructor
  · rw [e, Int.neg_tdiv, Int.tdiv_eq_ediv_of_nonneg (by omega)]; simp
  · rw [e, Int.neg_tmod, Int.tmod_eq_emod_of_nonneg (by omega)]; simp

set_option maxHeartbeats 1000000 in
theorem add_core (d q r : Int) (w : World) (hr1 : -9223372036854775808 ≤ d) (hr2 : d ≤ 9223372036854775807) (hm1 : 0 ≤ r) (hm2 : r < 1000000000) (hd : d = q * 1000000000 + r) :
    Calls Try.prog 12 #[.agg #[.int .u64 0, .int .i64 0, .pointer none], .int .i64 d] w fun e w' => e = .returned (.agg #[.int .u64 r, .int .i64 q, .pointer none]) ∧ Below w.heap.size w w' := by
  have hor := or_lo r hm1 hm2
  have hhi := hi_no r hm1 hm2
  have hq1 : -10000000000 ≤ q - 1 := by omega
  have hq2 : q + 1 ≤ 10000000000 := by omega
  by_cases h0 : 0 ≤ d
  · have e1 : d / 1000000000 = q := by omega
    have e2 : d % 1000000000 = r := by omega
    have hq0 : 0 ≤ q := by omega
    clear hd
    go_enter Try.func12, Try.ntmps12
    go_wp2_with (first
      | (go_at_call 15; refine (nsec_any _ 0 _ (by omega) (by omega) (by simp)).mono ?_; rintro e w' ⟨rfl, rfl⟩)
      | (go_at_call 16; go_must (refine (addSec_any _ _ r _ _ hm1 hm2 (by omega) (by omega) (by simp) (by simp) (by simp)).mono ?_; rintro e w' ⟨rfl, rfl⟩)))
    exact bodyPost_ret (v := .agg #[.int .u64 r, .int .i64 q, .pointer none]) (by simp [results, Try.results12, go_sem]) rfl ⟨rfl, ((Below.refl _ _).alloc (Nat.le_refl _) _).alloc (by simp) _⟩
  · obtain ⟨e1, e2⟩ := tdiv_neg d (by omega)
    by_cases h1 : r = 0
    · subst h1
      have e3 : d.tdiv 1000000000 = q := by rw [e1]; omega
      have e4 : d.tmod 1000000000 = 0 := by rw [e2]; omega
      clear e1 e2 hd
      go_enter Try.func12, Try.ntmps12
      go_wp2_with (first
        | (go_at_call 15; refine (nsec_any _ 0 _ (by omega) (by omega) (by simp)).mono ?_; rintro e w' ⟨rfl, rfl⟩)
        | (go_at_call 16; go_must (refine (addSec_any _ _ 0 _ _ hm1 hm2 (by omega) (by omega) (by simp) (by simp) (by simp)).mono ?_; rintro e w' ⟨rfl, rfl⟩)))
      exact bodyPost_ret (v := .agg #[.int .u64 0, .int .i64 q, .pointer none]) (by simp [results, Try.results12, go_sem]) rfl ⟨rfl, ((Below.refl _ _).alloc (Nat.le_refl _) _).alloc (by simp) _⟩
    · have e3 : d.tdiv 1000000000 = q + 1 := by rw [e1]; omega
      have e4 : d.tmod 1000000000 = r - 1000000000 := by rw [e2]; omega
      have h1' : 0 < r := by omega
      clear e1 e2 h1 hd
      go_enter Try.func12, Try.ntmps12
      go_wp2_with (first
        | (go_at_call 15; refine (nsec_any _ 0 _ (by omega) (by omega) (by simp)).mono ?_; rintro e w' ⟨rfl, rfl⟩)
        | (go_at_call 16; go_must (refine (addSec_any _ _ r _ _ hm1 hm2 (by omega) (by omega) (by simp) (by simp) (by simp)).mono ?_; rintro e w' ⟨rfl, rfl⟩)))
      exact bodyPost_ret (v := .agg #[.int .u64 r, .int .i64 q, .pointer none]) (by simp [results, Try.results12, go_sem]) rfl ⟨rfl, ((Below.refl _ _).alloc (Nat.le_refl _) _).alloc (by simp) _⟩

theorem add_any (d : Int) (w : World) (hw : (Lit.int .i64 d).wf = true) :
    Calls Try.prog 12 #[.agg #[.int .u64 0, .int .i64 0, .pointer none], .int .i64 d] w fun e w' => e = .returned (.agg #[.int .u64 (d % 1000000000), .int .i64 (d / 1000000000), .pointer none]) ∧ Below w.heap.size w w' := by
  have hr := div_lo d hw
  exact add_core d (d / 1000000000) (d % 1000000000) w hr.1 hr.2 (by omega) (by omega) (by omega)

theorem tt_of (p : Prop) [Decidable p] (h : p) : Ending.returned (.bool true) = .returned (.bool (decide p)) := by simp [h]
theorem bb_of (b : Bool) (p : Prop) [Decidable p] (h : b = true ↔ p) : Ending.returned (.bool b) = .returned (.bool (decide p)) := by
  rw [show b = decide p from by rw [Bool.eq_iff_iff, h]; simp]

set_option maxHeartbeats 1000000 in
theorem before_core (d1 q1 r1 d2 q2 r2 : Int) (w : World) (a1 : 0 ≤ r1) (b1 : r1 < 1000000000) (a2 : 0 ≤ r2) (b2 : r2 < 1000000000) (hd1 : d1 = q1 * 1000000000 + r1) (hd2 : d2 = q2 * 1000000000 + r2) :
    Calls Try.prog 13 #[.agg #[.int .u64 r1, .int .i64 q1, .pointer none], .agg #[.int .u64 r2, .int .i64 q2, .pointer none]] w fun e w' => e = .returned (.bool (decide (d1 < d2))) ∧ Below w.heap.size w w' := by
  have hn := and_hi2 r1 r2 a1 b1 a2 b2
  have D1 : Hid (d1 = q1 * 1000000000 + r1) := hd1
  have D2 : Hid (d2 = q2 * 1000000000 + r2) := hd2
  clear hd1 hd2
  by_cases h1 : q1 < q2
  · go_enter Try.func13, Try.ntmps13
    go_wp2_with fail
    refine (sec_any w.heap.size 0 r1 q1 _ a1 b1 (by simp) (by simp)).mono ?_
    rintro e w' ⟨rfl, rfl⟩
    go_wp2_with fail
    refine (sec_any (w.heap.size + 1) 0 r2 q2 _ a2 b2 (by simp) (by simp)).mono ?_
    rintro e w' ⟨rfl, rfl⟩
    go_wp2
    go_ret
    exact ⟨tt_of _ (by have := D1.out; have := D2.out; omega), ((Below.refl _ _).alloc (Nat.le_refl _) _).alloc (by simp) _⟩
  · by_cases h2 : q1 = q2
    · have h2' : (q1 == q2) = true := by simpa using h2
      by_cases h3 : r1 < r2
      · have D3 : Hid (q1 = q2) := h2
        clear h2
        go_enter Try.func13, Try.ntmps13
        go_wp2_with fail
        refine (sec_any w.heap.size 0 r1 q1 _ a1 b1 (by simp) (by simp)).mono ?_
        rintro e w' ⟨rfl, rfl⟩
        go_wp2_with fail
        refine (sec_any (w.heap.size + 1) 0 r2 q2 _ a2 b2 (by simp) (by simp)).mono ?_
        rintro e w' ⟨rfl, rfl⟩
        go_wp2_with fail
        refine (nsec_any ⟨w.heap.size, 0, none⟩ r1 _ a1 b1 (by simp)).mono ?_
        rintro e w' ⟨rfl, rfl⟩
        go_wp2_with fail
        refine (nsec_any ⟨w.heap.size + 1, 0, none⟩ r2 _ a2 b2 (by simp)).mono ?_
        rintro e w' ⟨rfl, rfl⟩
        go_wp2
        go_ret
        exact ⟨tt_of _ (by have := D1.out; have := D2.out; have := D3.out; omega), ((Below.refl _ _).alloc (Nat.le_refl _) _).alloc (by simp) _⟩
      · have D3 : Hid (q1 = q2) := h2
        clear h2
        go_enter Try.func13, Try.ntmps13
        go_wp2_with fail
        refine (sec_any w.heap.size 0 r1 q1 _ a1 b1 (by simp) (by simp)).mono ?_
        rintro e w' ⟨rfl, rfl⟩
        go_wp2_with fail
        refine (sec_any (w.heap.size + 1) 0 r2 q2 _ a2 b2 (by simp) (by simp)).mono ?_
        rintro e w' ⟨rfl, rfl⟩
        go_wp2_with fail
        refine (nsec_any ⟨w.heap.size, 0, none⟩ r1 _ a1 b1 (by simp)).mono ?_
        rintro e w' ⟨rfl, rfl⟩
        go_wp2_with fail
        refine (nsec_any ⟨w.heap.size + 1, 0, none⟩ r2 _ a2 b2 (by simp)).mono ?_
        rintro e w' ⟨rfl, rfl⟩
        go_wp2
        go_ret
        exact ⟨bb_of (decide (q1 < q2) || decide (r1 < r2)) _ (by have := D1.out; have := D2.out; have := D3.out; simp; omega), ((Below.refl _ _).alloc (Nat.le_refl _) _).alloc (by simp) _⟩
    · have h2' : (q1 == q2) = false := by simpa using h2
      go_enter Try.func13, Try.ntmps13
      go_wp2_with fail
      refine (sec_any w.heap.size 0 r1 q1 _ a1 b1 (by simp) (by simp)).mono ?_
      rintro e w' ⟨rfl, rfl⟩
      go_wp2_with fail
      refine (sec_any (w.heap.size + 1) 0 r2 q2 _ a2 b2 (by simp) (by simp)).mono ?_
      rintro e w' ⟨rfl, rfl⟩
      go_wp2
      go_ret
      exact ⟨bb_of (decide (q1 < q2)) _ (by have := D1.out; have := D2.out; simp; omega), ((Below.refl _ _).alloc (Nat.le_refl _) _).alloc (by simp) _⟩

theorem before_any (d1 d2 : Int) (w : World) :
    Calls Try.prog 13 #[.agg #[.int .u64 (d1 % 1000000000), .int .i64 (d1 / 1000000000), .pointer none], .agg #[.int .u64 (d2 % 1000000000), .int .i64 (d2 / 1000000000), .pointer none]] w fun e w' => e = .returned (.bool (decide (d1 < d2))) ∧ Below w.heap.size w w' :=
  before_core d1 _ _ d2 _ _ w (by omega) (by omega) (by omega) (by omega) (by omega) (by omega)
end Go.Proofs.Qxb6614051a
