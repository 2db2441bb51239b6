import Derived.Test.Qxb6001402aW1
import Derived.Deep.LoopGhost
namespace Go.Proofs.Qxb6001402a
open Go.RowKit

/-! quoteEnd, exactly. -/
def qEnd (g : Nat → Int) (n : Nat) (q : Int) (esc : Bool) : Nat → Nat → Nat
  | 0, _ => n
  | f + 1, i =>
    if i < n then
      if (g i == 92 && esc) = true then qEnd g n q esc f (i + 2)
      else if (g i == q) = true then (if i + 1 < n ∧ (g (i + 1) == q) = true then qEnd g n q esc f (i + 2) else i + 1)
      else qEnd g n q esc f (i + 1)
    else n

theorem qEnd_out (g : Nat → Int) (n : Nat) (q : Int) (esc : Bool) (f i : Nat) (h : ¬ i < n) : qEnd g n q esc f i = n := by
  cases f with
  | zero => rfl
  | succ f => simp [qEnd, h]

theorem qEnd_bd (g : Nat → Int) (n : Nat) (q : Int) (esc : Bool) : ∀ (f i : Nat), i ≤ n → i ≤ qEnd g n q esc f i ∧ qEnd g n q esc f i ≤ n
  | 0, i, h => ⟨h, Nat.le_refl _⟩
  | f + 1, i, h => by
    have out : ∀ j, ¬ j < n → qEnd g n q esc f j = n := fun j hj => qEnd_out g n q esc f j hj
    have ih : ∀ j, i ≤ j → i ≤ qEnd g n q esc f j ∧ qEnd g n q esc f j ≤ n := fun j hj => by
      by_cases hn : j ≤ n
      · have := qEnd_bd g n q esc f j hn
        omega
      · rw [out j (by omega)]
        omega
    unfold qEnd
    (repeat' split) <;> first | exact ih _ (by omega) | omega

set_option maxRecDepth 100000 in
set_option maxHeartbeats 2000000 in
theorem quoteEnd_any (t : ByteArray) (g : Nat → Int) (hb : ∀ (i : Nat) (h : i < t.size), ((t[i]'h).toNat : Int) = g i) (st : Nat) (q : Int) (hq : g st = q) (esc : Bool) (hst : st < t.size) (ht : t.size ≤ 1048576) (w : World) :
    Calls Try.prog 31 #[.string t, .int .i64 st, .bool esc] w fun e w' => e = .returned (.int .i64 (qEnd g t.size q esc t.size (st + 1))) ∧ w' = w := by
  go_enter Try.func31, Try.ntmps31
  go_wp2
  go_loopg [8] t.size (fun f iv wr => wr = w ∧ ∃ k : Nat, k ≤ t.size + 1 ∧ iv = .int .i64 k ∧ qEnd g t.size q esc f k = qEnd g t.size q esc t.size (st + 1) ∧ t.size ≤ k + f)
  case atStart => exact ⟨rfl, st + 1, by omega, by go_num, rfl, by omega⟩
  case round =>
    obtain ⟨rfl, k, hk, rfl, hQ, hf⟩ := hrel
    by_cases hlt : k < t.size
    · obtain ⟨f, rfl⟩ : ∃ f, gk = f + 1 := ⟨gk - 1, by omega⟩
      rw [qEnd, if_pos hlt] at hQ
      have hbk := hb k hlt
      cases hbe : (g k == 92 && esc) with
      | true =>
        rw [if_pos hbe] at hQ
        rw [Bool.and_eq_true] at hbe
        obtain ⟨e1, rfl⟩ := hbe
        have HQ : Hid (_ = _) := hQ
        clear hQ
        go_wp2
        go_roundg f
        case measure => omega
        case rel => exact ⟨rfl, k + 2, by omega, by go_num, HQ.out, by omega⟩
      | false =>
        rw [if_neg (by rw [hbe]; exact Bool.false_ne_true)] at hQ
        cases hqk : (g k == q) with
        | false =>
          rw [if_neg (by rw [hqk]; exact Bool.false_ne_true)] at hQ
          have HQ : Hid (_ = _) := hQ
          clear hQ
          cases h92 : (g k == 92) with
          | true =>
            rw [h92, Bool.true_and] at hbe
            subst hbe
            go_wp2
            go_roundg f
            case measure => omega
            case rel => exact ⟨rfl, k + 1, by omega, by go_num, HQ.out, by omega⟩
          | false =>
            clear hbe
            go_wp2
            go_roundg f
            case measure => omega
            case rel => exact ⟨rfl, k + 1, by omega, by go_num, HQ.out, by omega⟩
        | true =>
          rw [if_pos hqk] at hQ
          by_cases hk1 : k + 1 < t.size
          · have hbk1 := hb (k + 1) hk1
            cases hq1 : (g (k + 1) == q) with
            | true =>
              rw [if_pos ⟨hk1, hq1⟩] at hQ
              have HQ : Hid (_ = _) := hQ
              clear hQ
              cases h92 : (g k == 92) with
              | true =>
                rw [h92, Bool.true_and] at hbe
                subst hbe
                go_wp2
                go_roundg f
                case measure => omega
                case rel => exact ⟨rfl, k + 2, by omega, by go_num, HQ.out, by omega⟩
              | false =>
                clear hbe
                go_wp2
                go_roundg f
                case measure => omega
                case rel => exact ⟨rfl, k + 2, by omega, by go_num, HQ.out, by omega⟩
            | false =>
              rw [if_neg (by rw [hq1]; simp)] at hQ
              have HQ : Hid (_ = _) := hQ
              clear hQ
              cases h92 : (g k == 92) with
              | true =>
                rw [h92, Bool.true_and] at hbe
                subst hbe
                go_wp2
                go_ret
                exact ⟨ret_int (by have := HQ.out; omega), rfl⟩
              | false =>
                clear hbe
                go_wp2
                go_ret
                exact ⟨ret_int (by have := HQ.out; omega), rfl⟩
          · rw [if_neg (by omega)] at hQ
            have HQ : Hid (_ = _) := hQ
            clear hQ
            cases h92 : (g k == 92) with
            | true =>
              rw [h92, Bool.true_and] at hbe
              subst hbe
              go_wp2
              go_ret
              exact ⟨ret_int (by have := HQ.out; omega), rfl⟩
            | false =>
              clear hbe
              go_wp2
              go_ret
              exact ⟨ret_int (by have := HQ.out; omega), rfl⟩
    · rw [qEnd_out g t.size q esc gk k hlt] at hQ
      have HQ : Hid (_ = _) := hQ
      clear hQ
      go_wp2
      go_ret
      exact ⟨ret_int (congrArg (fun n : Nat => (n : Int)) HQ.out), rfl⟩

end Go.Proofs.Qxb6001402a
