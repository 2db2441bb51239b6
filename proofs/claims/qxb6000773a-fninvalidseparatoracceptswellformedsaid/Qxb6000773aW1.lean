import Derived.Test.Qxb6000773aRows
import Derived.Test.Qxb6000773aShelf
import Derived.WalkKit
import Derived.WalkSpells
import Derived.WalkLawsBesides
namespace Go.Proofs.Qxb6000773a
open Go.RowKit

/-! THE SMALL FUNCTIONS, each by its contract. -/
def decB (r : Int) : Bool := decide (48 ≤ r ∧ r ≤ 57)
def hexB (r : Int) : Bool := decide ((48 ≤ r ∧ r ≤ 57) ∨ (97 ≤ r ∧ r ≤ 102) ∨ (65 ≤ r ∧ r ≤ 70))
/-- What the literal's own digit test says of a byte. -/
def dgB (hx : Bool) (r : Int) : Bool := decB r || (hx && hexB r)
def low (r : Int) : Int := bits BinOp.or IntKind.i32 r 32

theorem ret_bool {a b : Bool} (h : a = b) : Ending.returned (.bool a) = .returned (.bool b) := by rw [h]
theorem ret_int {k : IntKind} {a b : Int} (h : a = b) : Ending.returned (.int k a) = .returned (.int k b) := by rw [h]

theorem low_fin : ∀ c : Fin 256, (97 ≤ low (c.val : Int) ∧ low (c.val : Int) ≤ 102 ↔ (97 ≤ (c.val : Int) ∧ (c.val : Int) ≤ 102) ∨ (65 ≤ (c.val : Int) ∧ (c.val : Int) ≤ 70)) ∧ (low (c.val : Int) = 120 ↔ (c.val : Int) = 120 ∨ (c.val : Int) = 88) := by decide +kernel
theorem low_any (c : Int) (h0 : 0 ≤ c) (h1 : c ≤ 255) : (97 ≤ low c ∧ low c ≤ 102 ↔ (97 ≤ c ∧ c ≤ 102) ∨ (65 ≤ c ∧ c ≤ 70)) ∧ (low c = 120 ↔ c = 120 ∨ c = 88) := by
  have h := low_fin ⟨c.toNat, by omega⟩
  have e : ((c.toNat : Nat) : Int) = c := Int.toNat_of_nonneg h0
  simp only [e] at h
  exact h

set_option maxHeartbeats 400000 in
theorem isDecimal_any (r : Int) (w : World) :
    Calls Try.prog 33 #[.int .i32 r] w fun e w' => e = .returned (.bool (decB r)) ∧ w' = w := by
  go_enter Try.func33, Try.ntmps33
  go_wp2
  all_goals (go_ret; exact ⟨ret_bool (by rw [Bool.eq_iff_iff]; simp [decB]; omega), rfl⟩)

theorem lower_any (r : Int) (w : World) :
    Calls Try.prog 31 #[.int .i32 r] w fun e w' => e = .returned (.int .i32 (low r)) ∧ w' = w := by
  go_enter Try.func31, Try.ntmps31
  go_wp2
  go_ret
  exact ⟨rfl, rfl⟩

set_option maxHeartbeats 400000 in
theorem isHex_any (r : Int) (h0 : 0 ≤ r) (h1 : r ≤ 255) (w : World) :
    Calls Try.prog 34 #[.int .i32 r] w fun e w' => e = .returned (.bool (hexB r)) ∧ w' = w := by
  have hl := low_any r h0 h1
  have HL : Hid _ := hl
  clear hl
  go_enter Try.func34, Try.ntmps34
  go_wp2_with (first
    | (go_at_call 33; refine (isDecimal_any _ _).mono ?_; rintro e w' ⟨rfl, rfl⟩)
    | (go_at_call 31; refine (lower_any _ _).mono ?_; rintro e w' ⟨rfl, rfl⟩))
  all_goals
    have hl := HL.out
    clear HL
    go_ret
    exact ⟨ret_bool (by rw [Bool.eq_iff_iff]; simp [hexB, decB] at *; omega), rfl⟩

set_option maxHeartbeats 400000 in
/-- The closure: a digit of the literal's class at place i. -/
theorem digit_any (lit : ByteArray) (g : Nat → Int) (hb : ∀ (i : Nat) (h : i < lit.size), ((lit[i]'h).toNat : Int) = g i) (hx : Bool) (i : Nat) (hi : i < lit.size) (p1 p4 : Nat) (W : World)
    (h1 : W.cell? ⟨p1, 0, none⟩ = some (.string lit)) (h4 : W.cell? ⟨p4, 0, none⟩ = some (.bool hx)) :
    Calls Try.prog 32 #[.int .i64 (i : Int), .pointer (some ⟨p1, 0, none⟩), .pointer (some ⟨p4, 0, none⟩)] W fun e w' => e = .returned (.bool (dgB hx (g i))) ∧ w' = W := by
  have hg : 0 ≤ g i ∧ g i ≤ 255 := by
    have := hb i hi
    have := (lit[i]'hi).toNat_lt
    omega
  have hgi := hb i hi
  go_enter Try.func32, Try.ntmps32
  cases hx
  all_goals
    go_wp2_with (first
      | (go_at_call 33; refine (isDecimal_any _ _).mono ?_; rintro e w' ⟨rfl, rfl⟩)
      | (go_at_call 34; refine (isHex_any _ (by omega) (by omega) _).mono ?_; rintro e w' ⟨rfl, rfl⟩))
  all_goals (go_ret; exact ⟨ret_bool (by simp [dgB, *]), rfl⟩)

/-- The letter of a base's prefix. -/
def letterOf (k : Int) (up : Bool) : Int := if k = 1 then (if up then 88 else 120) else if k = 2 then (if up then 66 else 98) else (if up then 79 else 111)

set_option maxHeartbeats 400000 in
theorem prefixLetter_any (k : Int) (up : Bool) (w : World) :
    Calls Try.prog 24 #[.int .i64 k, .bool up] w fun e w' => e = .returned (.int .u8 (letterOf k up)) ∧ w' = w := by
  by_cases h1 : k = 1
  · subst h1
    cases up
    all_goals (go_enter Try.func24, Try.ntmps24; go_wp2; go_ret; exact ⟨rfl, rfl⟩)
  · by_cases h2 : k = 2
    · subst h2
      cases up
      all_goals (go_enter Try.func24, Try.ntmps24; go_wp2; go_ret; exact ⟨rfl, rfl⟩)
    · have e1 : (k == 1) = false := beq_eq_false_iff_ne.2 h1
      have e2 : (k == 2) = false := beq_eq_false_iff_ne.2 h2
      cases up
      all_goals (go_enter Try.func24, Try.ntmps24; go_wp2; go_ret; exact ⟨ret_int (by simp [letterOf, h1, h2]), rfl⟩)

def hexDigits : List Int := [48, 49, 50, 51, 52, 53, 54, 55, 56, 57, 97, 98, 99, 100, 101, 102, 65, 66, 67, 68, 69, 70]
/-- The digit that a byte stands for. -/
def digitI (k b : Int) : Int := if k = 1 then hexDigits.getD (b % 22).toNat 0 else 48 + b % 10

theorem hexDigits_all : ∀ j : Fin 22, hexB (hexDigits.getD j.val 0) = true := by decide
theorem digitI_hex (b : Int) : hexB (digitI 1 b) = true := by
  have h := hexDigits_all ⟨(b % 22).toNat, by omega⟩
  simpa [digitI] using h
theorem digitI_dec (k b : Int) (hk : k ≠ 1) : decB (digitI k b) = true := by
  simp [digitI, hk, decB]
  omega

def hexText : ByteArray := ⟨#[48, 49, 50, 51, 52, 53, 54, 55, 56, 57, 97, 98, 99, 100, 101, 102, 65, 66, 67, 68, 69, 70]⟩
theorem hexText_at : ∀ j : Fin 22, ((hexText[j.val]'(by have := j.isLt; exact this)).toNat : Int) = hexDigits.getD j.val 0 := by decide

set_option maxHeartbeats 400000 in
theorem digitOf_any (k b : Int) (h0 : 0 ≤ b) (h1 : b ≤ 255) (w : World) :
    Calls Try.prog 25 #[.int .i64 k, .int .u8 b] w fun e w' => e = .returned (.int .u8 (digitI k b)) ∧ w' = w := by
  by_cases hk : k = 1
  · subst hk
    have hj : (b % 22).toNat < 22 := by omega
    have hr : 0 ≤ b % 22 ∧ b % 22 < 22 := by omega
    have ha := hexText_at ⟨(b % 22).toNat, hj⟩
    go_enter Try.func25, Try.ntmps25
    go_wp2
    go_ret
    exact ⟨ret_int (ha.trans (by simp [digitI])), rfl⟩
  · go_enter Try.func25, Try.ntmps25
    go_wp2
    go_ret
    exact ⟨ret_int (by simp [digitI, hk]; try omega), rfl⟩

set_option maxHeartbeats 400000 in
/-- The length guard, laid by program. -/
theorem zzBytes_any (v0 : Value) (s : ByteArray) (a : Option Addr) (n c : Nat) (hs : s.size ≤ 9223372036854775807) (hn : n ≤ 9223372036854775807) (w : World) :
    Calls Try.prog 22 #[v0, .string s, .slice a n c] w fun e w' => e = .returned (.bool (decide (s.size ≤ 1048576 ∧ n ≤ 1048576 ∧ s.size + n ≤ 1048576))) ∧ w' = w := by
  go_enter Try.func22, Try.ntmps22
  go_wp2
  all_goals (go_ret; exact ⟨ret_bool (by first | (symm; rw [decide_eq_false_iff_not]; omega) | (symm; rw [decide_eq_true_eq]; omega)), rfl⟩)

end Go.Proofs.Qxb6000773a
