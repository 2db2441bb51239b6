import Derived.Test.Qxb6615565aFmtRows
import Derived.WalkKit
import Derived.WalkSpells
import Derived.WalkLawsBesides
namespace Go.Proofs.Qxb6615565aFmt
open Go.RowKit

/-! THE CHARACTER TESTS: each by its contract; the plain functions are not reducible, so that the walk leaves them whole. -/
def letB (r : Int) : Bool := decide ((97 ≤ r ∧ r ≤ 122) ∨ (65 ≤ r ∧ r ≤ 90))
def digB (r : Int) : Bool := decide (48 ≤ r ∧ r ≤ 57)
def nameB (r : Int) : Bool := decide ((97 ≤ r ∧ r ≤ 122) ∨ (65 ≤ r ∧ r ≤ 90) ∨ (48 ≤ r ∧ r ≤ 57) ∨ r = 95 ∨ r = 45)
def segB (r : Int) : Bool := decide ((97 ≤ r ∧ r ≤ 122) ∨ (65 ≤ r ∧ r ≤ 90) ∨ (48 ≤ r ∧ r ≤ 57) ∨ r = 95 ∨ r = 45 ∨ r = 46)

theorem ret_bool {a b : Bool} (h : a = b) : Ending.returned (.bool a) = .returned (.bool b) := by rw [h]

theorem or32 : ∀ c : Fin 128, (97 ≤ bits BinOp.or IntKind.u8 (c.val : Int) 32 ∧ bits BinOp.or IntKind.u8 (c.val : Int) 32 ≤ 122) ↔ ((97 ≤ (c.val : Int) ∧ (c.val : Int) ≤ 122) ∨ (65 ≤ (c.val : Int) ∧ (c.val : Int) ≤ 90)) := by decide +kernel

theorem or32' (c : Int) (h0 : 0 ≤ c) (h1 : c ≤ 127) : (97 ≤ bits BinOp.or IntKind.u8 c 32 ∧ bits BinOp.or IntKind.u8 c 32 ≤ 122) ↔ ((97 ≤ c ∧ c ≤ 122) ∨ (65 ≤ c ∧ c ≤ 90)) := by
  have h := or32 ⟨c.toNat, by omega⟩
  have e : ((c.toNat : Nat) : Int) = c := Int.toNat_of_nonneg h0
  simp only [e] at h
  exact h

set_option maxHeartbeats 400000 in
theorem isLetter_any (r : Int) (w : World) :
    Calls Tryf.prog 18 #[.int .i32 r] w fun e w' => e = .returned (.bool (letB r)) ∧ w' = w := by
  go_enter Tryf.func18, Tryf.ntmps18
  go_wp2
  all_goals (go_ret; exact ⟨ret_bool (by rw [Bool.eq_iff_iff]; simp [letB]; omega), rfl⟩)

set_option maxHeartbeats 400000 in
theorem isDigit_any (r : Int) (w : World) :
    Calls Tryf.prog 19 #[.int .i32 r] w fun e w' => e = .returned (.bool (digB r)) ∧ w' = w := by
  go_enter Tryf.func19, Tryf.ntmps19
  go_wp2
  all_goals (go_ret; exact ⟨ret_bool (by rw [Bool.eq_iff_iff]; simp [digB]; omega), rfl⟩)

set_option maxHeartbeats 400000 in
theorem isNameChar_any (r : Int) (w : World) :
    Calls Tryf.prog 14 #[.int .i32 r] w fun e w' => e = .returned (.bool (nameB r)) ∧ w' = w := by
  go_enter Tryf.func14, Tryf.ntmps14
  go_wp2_with (first
    | (go_at_call 18; refine (isLetter_any _ _).mono ?_; rintro e w' ⟨rfl, rfl⟩)
    | (go_at_call 19; refine (isDigit_any _ _).mono ?_; rintro e w' ⟨rfl, rfl⟩))
  all_goals (go_ret; exact ⟨ret_bool (by rw [Bool.eq_iff_iff]; simp [nameB, letB, digB] at *; try omega), rfl⟩)

set_option maxHeartbeats 400000 in
theorem isSegmentChar_any (r : Int) (w : World) :
    Calls Tryf.prog 17 #[.int .i32 r] w fun e w' => e = .returned (.bool (segB r)) ∧ w' = w := by
  go_enter Tryf.func17, Tryf.ntmps17
  go_wp2_with (first
    | (go_at_call 14; refine (isNameChar_any _ _).mono ?_; rintro e w' ⟨rfl, rfl⟩))
  all_goals (go_ret; exact ⟨ret_bool (by rw [Bool.eq_iff_iff]; simp [nameB, segB] at *; try omega), rfl⟩)

set_option maxHeartbeats 400000 in
theorem zzIsSegmentChar_any (r : Int) (w : World) :
    Calls Tryf.prog 12 #[.int .i32 r] w fun e w' => e = .returned (.bool (segB r)) ∧ w' = w := by
  go_enter Tryf.func12, Tryf.ntmps12
  go_wp2_with (first
    | (go_at_call 17; refine (isSegmentChar_any _ _).mono ?_; rintro e w' ⟨rfl, rfl⟩))
  go_ret
  exact ⟨rfl, rfl⟩

set_option maxHeartbeats 400000 in
theorem zzNameByte_any (c : Int) (h0 : 0 ≤ c) (h1 : c ≤ 127) (w : World) :
    Calls Tryf.prog 13 #[.int .u8 c] w fun e w' => e = .returned (.bool (nameB c)) ∧ w' = w := by
  go_enter Tryf.func13, Tryf.ntmps13
  go_wp2
  all_goals
    have hb := or32' c h0 h1
    go_ret
    exact ⟨ret_bool (by rw [Bool.eq_iff_iff]; simp [nameB]; try omega), rfl⟩

set_option maxHeartbeats 400000 in
theorem zzNameRune_any (r : Int) (w : World) :
    Calls Tryf.prog 7 #[.int .i32 r] w fun e w' => e = .returned (.bool (nameB r)) ∧ w' = w := by
  by_cases h0 : r < 0
  · go_enter Tryf.func7, Tryf.ntmps7
    go_wp2
    go_ret
    exact ⟨ret_bool (by rw [Bool.eq_iff_iff]; simp [nameB]; omega), rfl⟩
  · by_cases h1 : 127 < r
    · go_enter Tryf.func7, Tryf.ntmps7
      go_wp2
      go_ret
      exact ⟨ret_bool (by rw [Bool.eq_iff_iff]; simp [nameB]; omega), rfl⟩
    · go_enter Tryf.func7, Tryf.ntmps7
      go_wp2_with (first
        | (go_at_call 13; refine (zzNameByte_any _ (by omega) (by omega) _).mono ?_; rintro e w' ⟨rfl, rfl⟩))
      go_ret
      exact ⟨rfl, rfl⟩

set_option maxHeartbeats 400000 in
theorem zzSegRune_any (r : Int) (w : World) :
    Calls Tryf.prog 10 #[.int .i32 r] w fun e w' => e = .returned (.bool (segB r)) ∧ w' = w := by
  go_enter Tryf.func10, Tryf.ntmps10
  go_wp2_with (first
    | (go_at_call 7; refine (zzNameRune_any _ _).mono ?_; rintro e w' ⟨rfl, rfl⟩))
  all_goals (go_ret; exact ⟨ret_bool (by rw [Bool.eq_iff_iff]; simp [nameB, segB] at *; try omega), rfl⟩)

end Go.Proofs.Qxb6615565aFmt
