import Derived.Test.Qxb6001402aRows
import Derived.Test.Qxb6001402aShelf
import Derived.WalkKit
import Derived.WalkSpells
import Derived.WalkLawsBesides
namespace Go.Proofs.Qxb6001402a
open Go.RowKit

/-! THE SMALL FUNCTIONS, each by its contract. -/
def spB (r : Int) : Bool := decide (r ≤ 32 ∨ r = 127)
def wordB (r : Int) : Bool := decide ((97 ≤ r ∧ r ≤ 122) ∨ (65 ≤ r ∧ r ≤ 90) ∨ (48 ≤ r ∧ r ≤ 57) ∨ r = 95 ∨ r = 36 ∨ 128 ≤ r)

theorem ret_bool {a b : Bool} (h : a = b) : Ending.returned (.bool a) = .returned (.bool b) := by rw [h]
theorem ret_int {k : IntKind} {a b : Int} (h : a = b) : Ending.returned (.int k a) = .returned (.int k b) := by rw [h]

set_option maxHeartbeats 400000 in
theorem isSpace_any (r : Int) (w : World) :
    Calls Try.prog 25 #[.int .u8 r] w fun e w' => e = .returned (.bool (spB r)) ∧ w' = w := by
  go_enter Try.func25, Try.ntmps25
  go_wp2
  all_goals (go_ret; exact ⟨ret_bool (by rw [Bool.eq_iff_iff]; simp [spB] at *; try omega), rfl⟩)

set_option maxHeartbeats 400000 in
theorem isWord_any (r : Int) (w : World) :
    Calls Try.prog 30 #[.int .u8 r] w fun e w' => e = .returned (.bool (wordB r)) ∧ w' = w := by
  go_enter Try.func30, Try.ntmps30
  go_wp2
  all_goals (go_ret; exact ⟨ret_bool (by rw [Bool.eq_iff_iff]; simp [wordB] at *; try omega), rfl⟩)

/-- How many digits the text begins with, at most six. -/
def vRun (s : ByteArray) : Nat → Nat → Nat
  | 0, k => k
  | f + 1, k => if h : k < s.size then (if 48 ≤ ((s[k]'h).toNat : Int) ∧ ((s[k]'h).toNat : Int) ≤ 57 then vRun s f (k + 1) else k) else k
def verLen (s : ByteArray) : Nat := if vRun s 6 0 < 5 then 0 else vRun s 6 0

theorem vRun_le (s : ByteArray) : ∀ f k, k ≤ s.size → vRun s f k ≤ s.size
  | 0, k, h => h
  | f + 1, k, h => by
    unfold vRun
    split
    · split
      · exact vRun_le s f (k + 1) (by omega)
      · exact h
    · exact h
theorem verLen_le (s : ByteArray) : verLen s ≤ s.size := by
  unfold verLen
  split
  · omega
  · exact vRun_le s 6 0 (by omega)

theorem ver_of (s : ByteArray) (k : Nat) (h : k = vRun s 6 0) : (k < 5 → verLen s = 0) ∧ (¬ k < 5 → verLen s = k) := by
  subst h
  unfold verLen
  exact ⟨fun h => if_pos h, fun h => if_neg h⟩

set_option maxHeartbeats 800000 in
theorem versionLen_any (s : ByteArray) (w : World) :
    Calls Try.prog 28 #[.string s] w fun e w' => e = .returned (.int .i64 (verLen s)) ∧ w' = w := by
  go_enter Try.func28, Try.ntmps28
  go_wp2
  go_loop [3] (fun n => ∃ k : Nat, k ≤ s.size ∧ k ≤ 6 ∧ n = .int .i64 k ∧ vRun s (6 - k) k = vRun s 6 0) (fun n => s.size - (intOf n).toNat)
  case atStart => exact ⟨0, Nat.zero_le _, by omega, rfl, rfl⟩
  case round =>
    obtain ⟨k, hk, h6, rfl, hV⟩ := hrel
    by_cases hlt : k < s.size
    · by_cases hl6 : k < 6
      · obtain ⟨f, hf⟩ : ∃ f, 6 - k = f + 1 := ⟨5 - k, by omega⟩
        rw [hf, vRun, dif_pos hlt] at hV
        by_cases h48 : 48 ≤ ((s[k]'hlt).toNat : Int)
        · by_cases h57 : ((s[k]'hlt).toNat : Int) ≤ 57
          · rw [if_pos ⟨h48, h57⟩] at hV
            have HV : Hid (vRun s f (k + 1) = vRun s 6 0) := hV
            have Hf : Hid (6 - k = f + 1) := hf
            clear hV hf
            go_wp2
            go_round
            case rel => exact ⟨k + 1, by omega, by omega, by go_num, by have := Hf.out; rw [show 6 - (k + 1) = f from by omega]; exact HV.out⟩
            case measure => simp [intOf]; omega
          · rw [if_neg (by omega)] at hV
            have HV := ver_of s k hV
            have HV : Hid _ := HV
            clear hV hf
            go_wp2
            all_goals (go_ret; first | exact ⟨ret_int (by rw [HV.out.1 (by omega)]; rfl), rfl⟩ | exact ⟨ret_int (by rw [HV.out.2 (by omega)]), rfl⟩)
        · rw [if_neg (by omega)] at hV
          have HV := ver_of s k hV
          have HV : Hid _ := HV
          clear hV hf
          go_wp2
          all_goals (go_ret; first | exact ⟨ret_int (by rw [HV.out.1 (by omega)]; rfl), rfl⟩ | exact ⟨ret_int (by rw [HV.out.2 (by omega)]), rfl⟩)
      · have h60 : 6 - k = 0 := by omega
        rw [h60] at hV
        have HV := ver_of s k hV
        have HV : Hid _ := HV
        clear hV h60
        go_wp2
        all_goals (go_ret; first | exact ⟨ret_int (by rw [HV.out.1 (by omega)]; rfl), rfl⟩ | exact ⟨ret_int (by rw [HV.out.2 (by omega)]), rfl⟩)
    · have hV2 : k = vRun s 6 0 := by
        rw [← hV]
        cases 6 - k with
        | zero => rfl
        | succ f => rw [vRun, dif_neg hlt]
      have HV := ver_of s k hV2
      have HV : Hid _ := HV
      clear hV hV2
      go_wp2
      all_goals (go_ret; first | exact ⟨ret_int (by rw [HV.out.1 (by omega)]; rfl), rfl⟩ | exact ⟨ret_int (by rw [HV.out.2 (by omega)]), rfl⟩)

end Go.Proofs.Qxb6001402a
