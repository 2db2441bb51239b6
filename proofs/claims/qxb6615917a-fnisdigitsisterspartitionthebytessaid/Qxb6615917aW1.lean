import Derived.Test.Qxb6615917aRows
import Derived.Test.Qxb6615917aShelf
import Derived.WalkKit
import Derived.WalkSpells
import Derived.WalkLawsBesides
namespace Go.Proofs.Qxb6615917a
open Go.RowKit

/-! THE CHARACTER TESTS, each by its contract. -/
def letB (r : Int) : Bool := decide ((97 ≤ r ∧ r ≤ 122) ∨ (65 ≤ r ∧ r ≤ 90))
def digB (r : Int) : Bool := decide (48 ≤ r ∧ r ≤ 57)
def ldhB (r : Int) : Bool := decide ((97 ≤ r ∧ r ≤ 122) ∨ (65 ≤ r ∧ r ≤ 90) ∨ (48 ≤ r ∧ r ≤ 57) ∨ r = 45)
def schB (r : Int) : Bool := decide ((97 ≤ r ∧ r ≤ 122) ∨ (65 ≤ r ∧ r ≤ 90) ∨ (48 ≤ r ∧ r ≤ 57) ∨ r = 43 ∨ r = 45 ∨ r = 46)

theorem ret_bool {a b : Bool} (h : a = b) : Ending.returned (.bool a) = .returned (.bool b) := by rw [h]

set_option maxHeartbeats 400000 in
theorem isDigit_any (r : Int) (w : World) :
    Calls Try.prog 10 #[.int .u8 r] w fun e w' => e = .returned (.bool (digB r)) ∧ w' = w := by
  go_enter Try.func10, Try.ntmps10
  go_wp2
  all_goals (go_ret; exact ⟨ret_bool (by rw [Bool.eq_iff_iff]; simp [digB]; omega), rfl⟩)

set_option maxHeartbeats 400000 in
theorem isLetter_any (r : Int) (w : World) :
    Calls Try.prog 11 #[.int .u8 r] w fun e w' => e = .returned (.bool (letB r)) ∧ w' = w := by
  go_enter Try.func11, Try.ntmps11
  go_wp2
  all_goals (go_ret; exact ⟨ret_bool (by rw [Bool.eq_iff_iff]; simp [letB]; omega), rfl⟩)

set_option maxHeartbeats 400000 in
theorem isLDH_any (r : Int) (w : World) :
    Calls Try.prog 12 #[.int .u8 r] w fun e w' => e = .returned (.bool (ldhB r)) ∧ w' = w := by
  go_enter Try.func12, Try.ntmps12
  go_wp2_with (first
    | (go_at_call 11; refine (isLetter_any _ _).mono ?_; rintro e w' ⟨rfl, rfl⟩)
    | (go_at_call 10; refine (isDigit_any _ _).mono ?_; rintro e w' ⟨rfl, rfl⟩))
  all_goals (go_ret; exact ⟨ret_bool (by rw [Bool.eq_iff_iff]; simp [ldhB, letB, digB] at *; try omega), rfl⟩)

theorem zzDigit_any (r : Int) (w : World) :
    Calls Try.prog 5 #[.int .u8 r] w fun e w' => e = .returned (.bool (digB r)) ∧ w' = w := by
  go_enter Try.func5, Try.ntmps5
  go_wp2_with (go_at_call 10; refine (isDigit_any _ _).mono ?_; rintro e w' ⟨rfl, rfl⟩)
  go_ret
  exact ⟨rfl, rfl⟩

theorem zzLetter_any (r : Int) (w : World) :
    Calls Try.prog 6 #[.int .u8 r] w fun e w' => e = .returned (.bool (letB r)) ∧ w' = w := by
  go_enter Try.func6, Try.ntmps6
  go_wp2_with (go_at_call 11; refine (isLetter_any _ _).mono ?_; rintro e w' ⟨rfl, rfl⟩)
  go_ret
  exact ⟨rfl, rfl⟩

theorem zzLDH_any (r : Int) (w : World) :
    Calls Try.prog 7 #[.int .u8 r] w fun e w' => e = .returned (.bool (ldhB r)) ∧ w' = w := by
  go_enter Try.func7, Try.ntmps7
  go_wp2_with (go_at_call 12; refine (isLDH_any _ _).mono ?_; rintro e w' ⟨rfl, rfl⟩)
  go_ret
  exact ⟨rfl, rfl⟩

/-- A digit is a URI character. -/
theorem uri_digit (r : Int) (h : digB r = true) (w : World) :
    Calls Try.prog 9 #[.int .u8 r] w fun e w' => e = .returned (.bool true) ∧ w' = w := by
  have h14 : Calls Try.prog 14 #[.int .u8 r] w fun e w' => e = .returned (.bool true) ∧ w' = w := by
    have hl : letB r = false := by simp [letB, digB] at *; omega
    go_enter Try.func14, Try.ntmps14
    go_wp2_with (first
      | (go_at_call 11; refine (isLetter_any _ _).mono ?_; rintro e w' ⟨rfl, rfl⟩)
      | (go_at_call 10; refine (isDigit_any _ _).mono ?_; rintro e w' ⟨rfl, rfl⟩))
    go_ret
    exact ⟨rfl, rfl⟩
  go_enter Try.func9, Try.ntmps9
  go_wp2_with (go_at_call 14; refine h14.mono ?_; rintro e w' ⟨rfl, rfl⟩)
  go_ret
  exact ⟨rfl, rfl⟩

set_option maxHeartbeats 1000000 in
theorem scheme2_at (s : ByteArray) (c : Int) (hz : s.size = 2) (h0 : ((s[0]'(by omega)).toNat : Int) = 97) (h1 : ((s[1]'(by omega)).toNat : Int) = c) (w : World) :
    Calls Try.prog 13 #[.string s] w fun e w' => e = .returned (.bool (schB c)) ∧ w' = w := by
  have h97 : letB 97 = true := by decide
  have hne : s.toList.isEmpty = false := by
    cases h : s.toList with
    | nil =>
      have := congrArg List.length h
      rw [ByteArray.toList_eq, Array.length_toList] at this
      have h2 : s.data.size = 2 := hz
      rw [h2] at this
      cases this
    | cons a t => rfl
  go_enter Try.func13, Try.ntmps13
  go_wp2_with (first
    | (go_at_call 11; refine (isLetter_any _ _).mono ?_; rintro e w' ⟨rfl, rfl⟩))
  go_loop [3] (fun i => i = .int .i64 1 ∨ (i = .int .i64 2 ∧ schB c = true)) (fun i => 2 - (intOf i).toNat)
  case atStart => exact Or.inl rfl
  case round =>
    rcases hrel with rfl | ⟨rfl, hc⟩
    · go_wp2_with (first
        | (go_at_call 11; refine (isLetter_any _ _).mono ?_; rintro e w' ⟨rfl, rfl⟩)
        | (go_at_call 10; refine (isDigit_any _ _).mono ?_; rintro e w' ⟨rfl, rfl⟩))
      all_goals first
        | (refine ⟨Or.inr ⟨rfl, ?_⟩, by decide⟩
           clear h0 h1
           simp [schB, letB, digB] at *
           try omega)
        | (go_ret
           refine ⟨ret_bool ?_, rfl⟩
           clear h0 h1
           rw [Bool.eq_iff_iff]
           simp [schB, letB, digB] at *
           try omega)
    · go_wp2
      go_ret
      exact ⟨rfl, rfl⟩

/-- isScheme of the two bytes 97, c. -/
theorem scheme2 (c : Int) (h0 : 0 ≤ c) (h1 : c ≤ 255) (w : World) :
    Calls Try.prog 8 #[.string ⟨#[97, (UInt8.ofNat c.toNat)]⟩] w fun e w' => e = .returned (.bool (schB c)) ∧ w' = w := by
  have h := scheme2_at ⟨#[97, (UInt8.ofNat c.toNat)]⟩ c rfl rfl (by show (((UInt8.ofNat c.toNat)).toNat : Int) = c; simp; omega) w
  go_enter Try.func8, Try.ntmps8
  go_wp2_with (go_at_call 13; refine h.mono ?_; rintro e w' ⟨rfl, rfl⟩)
  go_ret
  exact ⟨rfl, rfl⟩

set_option maxHeartbeats 400000 in
theorem scheme1_at (s : ByteArray) (c : Int) (hz : s.size = 1) (h0 : ((s[0]'(by omega)).toNat : Int) = c) (hl : letB c = false) (w : World) :
    Calls Try.prog 13 #[.string s] w fun e w' => e = .returned (.bool false) ∧ w' = w := by
  have hne : s.toList.isEmpty = false := by
    cases h : s.toList with
    | nil =>
      have := congrArg List.length h
      rw [ByteArray.toList_eq, Array.length_toList] at this
      have h2 : s.data.size = 1 := hz
      rw [h2] at this
      cases this
    | cons a t => rfl
  go_enter Try.func13, Try.ntmps13
  go_wp2_with (first
    | (go_at_call 11; refine (isLetter_any _ _).mono ?_; rintro e w' ⟨rfl, rfl⟩))
  go_ret
  exact ⟨rfl, rfl⟩

/-- A scheme does not begin with a digit. -/
theorem scheme1 (c : Int) (hd : digB c = true) (w : World) :
    Calls Try.prog 8 #[.string ⟨#[(UInt8.ofNat c.toNat)]⟩] w fun e w' => e = .returned (.bool false) ∧ w' = w := by
  have hb : 48 ≤ c ∧ c ≤ 57 := by simpa [digB] using hd
  have hl : letB c = false := by simp [letB]; omega
  have h := scheme1_at ⟨#[(UInt8.ofNat c.toNat)]⟩ c rfl (by show (((UInt8.ofNat c.toNat)).toNat : Int) = c; simp; omega) hl w
  go_enter Try.func8, Try.ntmps8
  go_wp2_with (go_at_call 13; refine h.mono ?_; rintro e w' ⟨rfl, rfl⟩)
  go_ret
  exact ⟨rfl, rfl⟩

end Go.Proofs.Qxb6615917a
