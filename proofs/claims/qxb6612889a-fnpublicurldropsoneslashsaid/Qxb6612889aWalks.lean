import Derived.Test.Qxb6612889aRows
import Derived.WalkKit
import Derived.WalkSpells
namespace Go.Proofs.Qxb6612889a
open Go.RowKit

/-- Does the string end with a slash? -/
def ends (s : ByteArray) : Bool := s.data.toList.getLast? == some 47
/-- The string without one slash at its end. -/
def trim (s : ByteArray) : ByteArray := if ends s = true then s.extract 0 (s.size - 1) else s

theorem split_last (s : ByteArray) (h : 1 ≤ s.size) : ∃ (l : List UInt8) (c : UInt8), s = ⟨(l ++ [c]).toArray⟩ := by
  obtain ⟨⟨l⟩⟩ := s
  have hl : l ≠ [] := by intro e; subst e; simp [ByteArray.size] at h
  exact ⟨l.dropLast, l.getLast hl, by rw [List.dropLast_concat_getLast]⟩

theorem ends_mk (l : List UInt8) (c : UInt8) : ends ⟨(l ++ [c]).toArray⟩ = (c == 47) := by
  simp [ends]

theorem ends_nil (s : ByteArray) (h : ¬ 1 ≤ s.size) : ends s = false := by
  obtain ⟨⟨l⟩⟩ := s
  have hl : l = [] := by cases l with
    | nil => rfl
    | cons a t => simp [ByteArray.size] at h
  subst hl
  rfl

theorem ext_last (s : ByteArray) (h : 1 ≤ s.size) : ((s.extract (s.size - 1) s.size).toList == [47]) = ends s := by
  obtain ⟨l, c, rfl⟩ := split_last s h
  rw [ends_mk, ByteArray.toList_eq]
  simp [ByteArray.size]

theorem last_byte (s : ByteArray) (h : 1 ≤ s.size) (h' : s.size - 1 < s.size) : (((s[s.size - 1]'h').toNat : Int) == 47) = ends s := by
  obtain ⟨l, c, rfl⟩ := split_last s h
  have e : (ByteArray.mk (l ++ [c]).toArray)[(ByteArray.mk (l ++ [c]).toArray).size - 1]'h' = c := by
    show (l ++ [c]).toArray[((l ++ [c]).toArray.size - 1 : Nat)]'_ = c
    simp
  rw [ends_mk, e, Bool.eq_iff_iff, beq_iff_eq, beq_iff_eq, ← UInt8.toNat_inj]
  have : (47 : UInt8).toNat = 47 := rfl
  omega

theorem trim_slash (s : ByteArray) : trim (s ++ ⟨#[47]⟩) = s := by
  have he : ends (s ++ ⟨#[47]⟩) = true := by simp [ends, ByteArray.data_append]
  rw [trim, if_pos he]
  exact ByteArray.extract_append_eq_left (by rw [ByteArray.size_append]; have h1 : (ByteArray.mk #[47]).size = 1 := rfl; omega)

theorem slashed_eq (s p : ByteArray) : ((trim (s ++ ⟨#[47]⟩) ++ p).toList == (s ++ p).toList) = true := by
  rw [trim_slash]; simp

theorem plain_eq (s p : ByteArray) : ((trim s ++ p).toList == (trim (s ++ ⟨#[47]⟩) ++ p).toList) = !ends s := by
  rw [trim_slash, ByteArray.toList_eq, ByteArray.toList_eq]
  by_cases h : ends s = true
  · have hs : 1 ≤ s.size := by
      by_cases hs : 1 ≤ s.size
      · exact hs
      · rw [ends_nil s hs] at h; cases h
    rw [trim, if_pos h, h]
    have hn : ¬ ((s.extract 0 (s.size - 1) ++ p).data.toList = (s ++ p).data.toList) := by
      intro e
      have e2 := congrArg List.length e
      simp [ByteArray.data_append, ByteArray.data_extract] at e2
      have : s.data.size = s.size := rfl
      omega
    simpa using hn
  · rw [trim, if_neg h]
    simp [h]

set_option maxHeartbeats 400000 in
theorem hasSuffix_any (s : ByteArray) (w : World) (hs : s.size ≤ 9223372036854775807) :
    Calls Try.prog 8 #[.string s, .string { data := #[47] }] w fun e w' => e = .returned (.bool (ends s)) ∧ w' = w := by
  by_cases h : 1 ≤ s.size
  · have hx := ext_last s h
    go_enter Try.func8, Try.ntmps8
    go_wp2
    go_ret
    exact ⟨rfl, rfl⟩
  · have hx := ends_nil s h
    go_enter Try.func8, Try.ntmps8
    go_wp2
    go_ret
    exact ⟨rfl, rfl⟩

set_option maxHeartbeats 400000 in
theorem trimSuffix_any (s : ByteArray) (w : World) (hs : s.size ≤ 9223372036854775807) :
    Calls Try.prog 7 #[.string s, .string { data := #[47] }] w fun e w' => e = .returned (.string (trim s)) ∧ w' = w := by
  by_cases h : ends s = true
  · have h1 : 1 ≤ s.size := by
      by_cases hs : 1 ≤ s.size
      · exact hs
      · rw [ends_nil s hs] at h; cases h
    have ht : trim s = s.extract 0 (s.size - 1) := by rw [trim, if_pos h]
    rw [ht]; clear ht
    go_enter Try.func7, Try.ntmps7
    go_wp2_with (go_at_call 8; refine (hasSuffix_any _ _ hs).mono ?_; rintro e w' ⟨rfl, rfl⟩)
    go_ret
    exact ⟨rfl, rfl⟩
  · have ht : trim s = s := by rw [trim, if_neg h]
    rw [ht]; clear ht
    have h' : ends s = false := by simpa using h
    go_enter Try.func7, Try.ntmps7
    go_wp2_with (go_at_call 8; refine (hasSuffix_any _ _ hs).mono ?_; rintro e w' ⟨rfl, rfl⟩)
    go_ret
    exact ⟨rfl, rfl⟩

theorem trim_size (s : ByteArray) : (trim s).size ≤ s.size := by
  unfold trim
  split
  · simp [ByteArray.size_extract]
  · exact Nat.le_refl _

set_option maxHeartbeats 400000 in
theorem publicURL_any (s p : ByteArray) (w : World) (hs : s.size ≤ 1048577) (hp : p.size ≤ 1048576) :
    Calls Try.prog 5 #[.string s, .string p] w fun e w' => e = .returned (.string (trim s ++ p)) ∧ w' = w := by
  have hz := trim_size s
  go_enter Try.func5, Try.ntmps5
  go_wp2_with (first
    | (go_at_call 6; go_in)
    | (go_at_call 7; refine (trimSuffix_any _ _ (by omega)).mono ?_; rintro e w' ⟨rfl, rfl⟩))
  go_ret
  exact ⟨rfl, rfl⟩

set_option maxHeartbeats 400000 in
theorem law_any (s p : ByteArray) (w : World) (hs : s.size ≤ maxLen) (hp : p.size ≤ maxLen) :
    Calls Try.prog 3 #[.string s, .string p] w fun e w' => e = .returned (.bool true) ∧ w' = w := by
  unfold maxLen at hs hp
  by_cases h1 : s.size ≤ 524288 ∧ p.size ≤ 524288
  · obtain ⟨h1, h2⟩ := h1
    have e1 := slashed_eq s p
    have e2 := plain_eq s p
    have z1 := trim_size s
    have z2 : (s ++ ⟨#[47]⟩ : ByteArray).size ≤ 524289 := by
      have h3 : (ByteArray.mk #[47]).size = 1 := rfl
      rw [ByteArray.size_append]; omega
    by_cases h3 : 1 ≤ s.size
    · have hl := last_byte s h3 (by omega)
      go_enter Try.func3, Try.ntmps3
      go_wp2_with (first
        | (go_at_call 4; go_in)
        | (go_at_call 5; refine (publicURL_any _ _ _ (by omega) (by omega)).mono ?_; rintro e w' ⟨rfl, rfl⟩))
      go_ret
      exact ⟨rfl, rfl⟩
    · have hl := ends_nil s h3
      go_enter Try.func3, Try.ntmps3
      go_wp2_with (first
        | (go_at_call 4; go_in)
        | (go_at_call 5; refine (publicURL_any _ _ _ (by omega) (by omega)).mono ?_; rintro e w' ⟨rfl, rfl⟩))
      go_ret
      exact ⟨rfl, rfl⟩
  · go_enter Try.func3, Try.ntmps3
    go_wp2_with (first
        | (go_at_call 4; go_in))
    all_goals (go_ret; exact ⟨rfl, rfl⟩)
end Go.Proofs.Qxb6612889a
