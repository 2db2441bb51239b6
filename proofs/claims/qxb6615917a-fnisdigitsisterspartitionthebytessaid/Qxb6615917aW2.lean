import Derived.Test.Qxb6615917aW1
namespace Go.Proofs.Qxb6615917a
open Go.RowKit

/-! HOW MANY OF THE BYTES BELOW k ARE LETTERS, DIGITS, HYPHENS: closed forms. -/
def cL (k : Nat) : Int := if k ≤ 65 then 0 else if k ≤ 91 then (k : Int) - 65 else if k ≤ 97 then 26 else if k ≤ 123 then (k : Int) - 71 else 52
def cD (k : Nat) : Int := if k ≤ 48 then 0 else if k ≤ 58 then (k : Int) - 48 else 10
def cH (k : Nat) : Int := if k ≤ 45 then 0 else 1
def cO (k : Nat) : Int := (k : Int) - cL k - cD k - cH k

theorem cL_bd (k : Nat) : 0 ≤ cL k ∧ cL k ≤ 52 := by unfold cL; repeat' split <;> omega
theorem cD_bd (k : Nat) : 0 ≤ cD k ∧ cD k ≤ 10 := by unfold cD; repeat' split <;> omega
theorem cH_bd (k : Nat) : 0 ≤ cH k ∧ cH k ≤ 1 := by unfold cH; repeat' split <;> omega
/-- What a byte is: a letter, a digit, the hyphen, or none of them; and what the counts become. -/
theorem classes (k : Nat) :
    (letB k = true ∧ digB k = false ∧ ((k : Int) == 45) = false ∧ ldhB k = true ∧ cL (k + 1) = cL k + 1 ∧ cD (k + 1) = cD k ∧ cH (k + 1) = cH k) ∨
    (letB k = false ∧ digB k = true ∧ ((k : Int) == 45) = false ∧ ldhB k = true ∧ cL (k + 1) = cL k ∧ cD (k + 1) = cD k + 1 ∧ cH (k + 1) = cH k) ∨
    (letB k = false ∧ digB k = false ∧ ((k : Int) == 45) = true ∧ ldhB k = true ∧ cL (k + 1) = cL k ∧ cD (k + 1) = cD k ∧ cH (k + 1) = cH k + 1) ∨
    (letB k = false ∧ digB k = false ∧ ((k : Int) == 45) = false ∧ ldhB k = false ∧ cL (k + 1) = cL k ∧ cD (k + 1) = cD k ∧ cH (k + 1) = cH k) := by
  simp only [letB, digB, ldhB, cL, cD, cH, decide_eq_true_eq, decide_eq_false_iff_not, beq_iff_eq, beq_eq_false_iff_ne]
  by_cases h1 : (97 ≤ (k : Int) ∧ (k : Int) ≤ 122) ∨ (65 ≤ (k : Int) ∧ (k : Int) ≤ 90)
  · refine Or.inl ⟨h1, by omega, by omega, by omega, ?_, ?_, ?_⟩ <;> (repeat' split) <;> omega
  · by_cases h2 : 48 ≤ (k : Int) ∧ (k : Int) ≤ 57
    · refine Or.inr (Or.inl ⟨h1, h2, by omega, by omega, ?_, ?_, ?_⟩) <;> (repeat' split) <;> omega
    · by_cases h3 : (k : Int) = 45
      · refine Or.inr (Or.inr (Or.inl ⟨h1, h2, h3, by omega, ?_, ?_, ?_⟩)) <;> (repeat' split) <;> omega
      · refine Or.inr (Or.inr (Or.inr ⟨h1, h2, h3, by omega, ?_, ?_, ?_⟩)) <;> (repeat' split) <;> omega

/-- What may follow in a scheme, by its six ways. -/
theorem goesOn (c : Int) :
    (letB c = true ∧ digB c = false ∧ schB c = true) ∨
    (letB c = false ∧ digB c = true ∧ schB c = true) ∨
    (letB c = false ∧ digB c = false ∧ (c == 43) = true ∧ schB c = true) ∨
    (letB c = false ∧ digB c = false ∧ (c == 43) = false ∧ (c == 45) = true ∧ schB c = true) ∨
    (letB c = false ∧ digB c = false ∧ (c == 43) = false ∧ (c == 45) = false ∧ (c == 46) = true ∧ schB c = true) ∨
    (letB c = false ∧ digB c = false ∧ (c == 43) = false ∧ (c == 45) = false ∧ (c == 46) = false ∧ schB c = false) := by
  simp only [letB, digB, schB, decide_eq_true_eq, decide_eq_false_iff_not, beq_iff_eq, beq_eq_false_iff_ne]
  omega

theorem conv2 (c : Int) (w : World) : (convert 24 9 (.slice (some ⟨w.heap.size, 0, none⟩) 2 2)).run Try.prog (w.alloc (.cells #[.int .u8 97, .int .u8 c] 5)) = .ok (.string ⟨#[97, UInt8.ofNat c.toNat]⟩) (w.alloc (.cells #[.int .u8 97, .int .u8 c] 5)) :=
  run_convert_bytes_arg _ 24 5 Try.underlying24 Try.underlying5 w.heap.size 0 2 2 [97, c] rfl (fun i hi => by
    match i, hi with
    | 0, _ => simp
    | 1, _ => simp) 9 Try.underlying9

theorem conv1 (c : Int) (w : World) : (convert 24 9 (.slice (some ⟨w.heap.size, 0, none⟩) 1 1)).run Try.prog (w.alloc (.cells #[.int .u8 c] 5)) = .ok (.string ⟨#[UInt8.ofNat c.toNat]⟩) (w.alloc (.cells #[.int .u8 c] 5)) :=
  run_convert_bytes_arg _ 24 5 Try.underlying24 Try.underlying5 w.heap.size 0 1 1 [c] rfl (fun i hi => by
    match i, hi with
    | 0, _ => simp) 9 Try.underlying9

theorem conv1' (c : Int) (w : World) (o : Obj) : (convert 24 9 (.slice (some ⟨w.heap.size + 1, 0, none⟩) 1 1)).run Try.prog ((w.alloc o).alloc (.cells #[.int .u8 c] 5)) = .ok (.string ⟨#[UInt8.ofNat c.toNat]⟩) ((w.alloc o).alloc (.cells #[.int .u8 c] 5)) := by
  have h := conv1 c (w.alloc o)
  have e : (w.alloc o).heap.size = w.heap.size + 1 := by simp
  rw [e] at h
  exact h

set_option maxRecDepth 100000 in
set_option maxHeartbeats 1000000 in
theorem law (c : Int) (h0 : 0 ≤ c) (h1 : c ≤ 255) (w : World) :
    Calls Try.prog 4 #[.int .u8 c] w fun e w' => e = .returned (.bool true) ∧ Below w.heap.size w w' := by
  go_enter Try.func4, Try.ntmps4
  go_wp2
  go_loop [3, 4, 5, 6, 7] (fun l d h o i => ∃ k : Nat, k ≤ 256 ∧ l = .int .i64 (cL k) ∧ d = .int .i64 (cD k) ∧ h = .int .i64 (cH k) ∧ o = .int .i64 (cO k) ∧ i = .int .i64 k) (fun _ _ _ _ i => 256 - (intOf i).toNat)
  case atStart => exact ⟨0, Nat.zero_le _, rfl, rfl, rfl, rfl, rfl⟩
  case round =>
    obtain ⟨k, hk, rfl, rfl, rfl, rfl, rfl⟩ := hrel
    have bL := cL_bd k
    have bD := cD_bd k
    have bH := cH_bd k
    have bO : -100 ≤ cO k ∧ cO k ≤ 256 := by unfold cO; omega
    by_cases hlt : k < 256
    · have hcl := classes k
      rcases hcl with ⟨a1, a2, a3, a4, e1, e2, e3⟩ | ⟨a1, a2, a3, a4, e1, e2, e3⟩ | ⟨a1, a2, a3, a4, e1, e2, e3⟩ | ⟨a1, a2, a3, a4, e1, e2, e3⟩
      all_goals
        have HE : Hid (_ ∧ _ ∧ _ ∧ _) := ⟨e1, e2, e3, (by unfold cO; rw [e1, e2, e3] : cO (k + 1) = _)⟩
        clear e1 e2 e3
        go_wp2_with (first
          | (go_at_call 5; refine (zzDigit_any _ _).mono ?_; rintro e w' ⟨rfl, rfl⟩)
          | (go_at_call 6; refine (zzLetter_any _ _).mono ?_; rintro e w' ⟨rfl, rfl⟩)
          | (go_at_call 7; refine (zzLDH_any _ _).mono ?_; rintro e w' ⟨rfl, rfl⟩))
        go_round
        case rel =>
          obtain ⟨e1, e2, e3, e4⟩ := HE.out
          refine ⟨k + 1, by omega, ?_, ?_, ?_, ?_, by go_num⟩
          · rw [e1]
          · rw [e2]
          · rw [e3]
          · rw [e4]; unfold cO; congr 1; omega
        case measure => simp [intOf]; omega
    · obtain rfl : k = 256 := by omega
      have e1 : cL 256 = 52 := by decide
      have e2 : cD 256 = 10 := by decide
      have e3 : cH 256 = 1 := by decide
      have e4 : cO 256 = 193 := by decide
      rw [e1, e2, e3, e4]
      clear bL bD bH bO e1 e2 e3 e4
      have k2 := conv2 c
      have k1 := conv1' c w
      go_wp2_with fail
      refine (scheme2 c h0 h1 _).mono ?_
      rintro e w1 ⟨rfl, rfl⟩
      rcases goesOn c with ⟨a1, a2, a3⟩ | ⟨a1, a2, a3⟩ | ⟨a1, a2, a3, a4⟩ | ⟨a1, a2, a3, a4, a5⟩ | ⟨a1, a2, a3, a4, a5, a6⟩ | ⟨a1, a2, a3, a4, a5, a6⟩
      all_goals
        go_wp2_with (first
          | (go_at_call 5; refine (zzDigit_any _ _).mono ?_; rintro e w' ⟨rfl, rfl⟩)
          | (go_at_call 6; refine (zzLetter_any _ _).mono ?_; rintro e w' ⟨rfl, rfl⟩)
          | (go_at_call 9; refine (uri_digit _ (by assumption) _).mono ?_; rintro e w' ⟨rfl, rfl⟩)
          | (go_at_call 8; refine (scheme1 _ (by assumption) _).mono ?_; rintro e w' ⟨rfl, rfl⟩))
      all_goals
        go_ret
        exact ⟨rfl, by repeat (first | exact Below.refl _ _ | refine Below.alloc ?_ (by simp) _)⟩

end Go.Proofs.Qxb6615917a
