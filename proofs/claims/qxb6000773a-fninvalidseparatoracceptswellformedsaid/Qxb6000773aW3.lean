import Derived.Test.Qxb6000773aW2
namespace Go.Proofs.Qxb6000773a
open Go.RowKit

/-- Every underscore stands between two digits, or right behind the prefix and ahead of a digit. -/
def Fine (g : Nat → Int) (n : Nat) (hp hx : Bool) : Prop :=
  ∀ i, i < n → g i = 95 → ((0 < i ∧ dgB hx (g (i - 1)) = true) ∨ (hp = true ∧ i = 2)) ∧ i + 1 < n ∧ dgB hx (g (i + 1)) = true

/-- How the literal's head is read. -/
def Head (g : Nat → Int) (n : Nat) (hp hx : Bool) : Prop :=
  (n ≤ 2 ∧ hp = false ∧ hx = false) ∨ (2 < n ∧ (g 0 == 48) = false ∧ hp = false ∧ hx = false) ∨
  (2 < n ∧ (g 0 == 48) = true ∧ decide (0 ≤ Lib.indexByte [120, 88, 111, 79, 98, 66] (UInt8.ofNat (g 1).toNat)) = false ∧ hp = false ∧ hx = false) ∨
  (2 < n ∧ (g 0 == 48) = true ∧ decide (0 ≤ Lib.indexByte [120, 88, 111, 79, 98, 66] (UInt8.ofNat (g 1).toNat)) = true ∧ hp = true ∧ (low (g 1) == 120) = hx)

theorem digit_int (lit : ByteArray) (g : Nat → Int) (hb : ∀ (i : Nat) (h : i < lit.size), ((lit[i]'h).toNat : Int) = g i) (hx : Bool) (j : Int) (h0 : 0 ≤ j) (hj : j < lit.size) (w : World) :
    Calls Try.prog 32 #[.int .i64 j, .pointer (some ⟨w.heap.size, 0, none⟩), .pointer (some ⟨w.heap.size + 1, 0, none⟩)] ((w.alloc (.cells #[.string lit] 9)).alloc (.cells #[.bool hx] 4)) fun e w' => e = .returned (.bool (dgB hx (g j.toNat))) ∧ w' = ((w.alloc (.cells #[.string lit] 9)).alloc (.cells #[.bool hx] 4)) := by
  obtain ⟨i, rfl⟩ := Int.eq_ofNat_of_zero_le h0
  rw [Int.toNat_natCast]
  exact digit_any lit g hb hx i (by omega) _ _ _ (by simp) (by simp)

set_option maxHeartbeats 1000000 in
theorem inv_any (lit : ByteArray) (g : Nat → Int) (hb : ∀ (i : Nat) (h : i < lit.size), ((lit[i]'h).toNat : Int) = g i) (hs : lit.size ≤ 1000000) (hp hx : Bool) (hh : Head g lit.size hp hx) (hf : Fine g lit.size hp hx) (w : World) :
    Calls Try.prog 28 #[.string lit] w fun e w' => e = .returned (.int .i64 (-1)) ∧ Below w.heap.size w w' := by
  have hg1 : 2 < lit.size → 0 ≤ g 1 ∧ g 1 ≤ 255 := fun h => by
    have h1 := hb 1 (by omega)
    have h2 := (lit[1]'(by omega)).toNat_lt
    omega
  rcases hh with ⟨h1, rfl, rfl⟩ | ⟨h1, h2, rfl, rfl⟩ | ⟨h1, h2, h3, rfl, rfl⟩ | ⟨h1, h2, h3, rfl, h4⟩
  · have HF : Hid (Fine g lit.size false false) := hf
    have HD : Hid (∀ j : Int, 0 ≤ j → j < lit.size → _) := fun j a b => digit_int lit g hb false j a b w
    clear hf hg1
    go_enter Try.func28, Try.ntmps28
    go_wp2_with (first
      | (go_at_call 30; refine (Try.strings_IndexByte _ _ _).mono ?_; rintro e w' ⟨rfl, rfl⟩)
      | (go_at_call 31; refine (lower_any _ _).mono ?_; rintro e w' ⟨rfl, rfl⟩))
    go_loop [34] (fun i => ∃ k : Nat, k ≤ lit.size ∧ i = .int .i64 k) (fun i => lit.size - (intOf i).toNat)
    case atStart => exact ⟨0, Nat.zero_le _, rfl⟩
    case round =>
      obtain ⟨k, hk, rfl⟩ := hrel
      by_cases hlt : k < lit.size
      · by_cases h95 : g k = 95
        · obtain ⟨hbef, haft, hda⟩ := HF.out k hlt h95
          have e95 : (g k != 95) = false := by simp [h95]
          clear h95
          have hda' : dgB false (g ((k : Int) + 1).toNat) = true := by rw [show ((k : Int) + 1).toNat = k + 1 from by omega]; exact hda
          by_cases hdb : 0 < k ∧ dgB false (g (k - 1)) = true
          · obtain ⟨hk0, hdb⟩ := hdb
            have hdb' : dgB false (g ((k : Int) - 1).toNat) = true := by rw [show ((k : Int) - 1).toNat = k - 1 from by omega]; exact hdb
            clear hbef
            go_wp2_with (go_at_call 32; refine (HD.out _ (by omega) (by omega)).mono ?_; rintro e w' ⟨rfl, rfl⟩)
            all_goals (
              go_round
              case rel => exact ⟨k + 1, by omega, by go_num⟩
              case measure => simp [intOf]; omega)
          · rcases hbef with h | ⟨h, _⟩
            · exact absurd h hdb
            · cases h
        · have e95 : (g k != 95) = true := by simp [h95]
          go_wp2
          go_round
          case rel => exact ⟨k + 1, by omega, by go_num⟩
          case measure => simp [intOf]; omega
      · go_wp2
        go_ret
        exact ⟨rfl, ((Below.refl _ _).alloc (Nat.le_refl _) _).alloc (by simp) _⟩
  · have HF : Hid (Fine g lit.size false false) := hf
    have HD : Hid (∀ j : Int, 0 ≤ j → j < lit.size → _) := fun j a b => digit_int lit g hb false j a b w
    clear hf hg1
    go_enter Try.func28, Try.ntmps28
    go_wp2_with (first
      | (go_at_call 30; refine (Try.strings_IndexByte _ _ _).mono ?_; rintro e w' ⟨rfl, rfl⟩)
      | (go_at_call 31; refine (lower_any _ _).mono ?_; rintro e w' ⟨rfl, rfl⟩))
    go_loop [34] (fun i => ∃ k : Nat, k ≤ lit.size ∧ i = .int .i64 k) (fun i => lit.size - (intOf i).toNat)
    case atStart => exact ⟨0, Nat.zero_le _, rfl⟩
    case round =>
      obtain ⟨k, hk, rfl⟩ := hrel
      by_cases hlt : k < lit.size
      · by_cases h95 : g k = 95
        · obtain ⟨hbef, haft, hda⟩ := HF.out k hlt h95
          have e95 : (g k != 95) = false := by simp [h95]
          clear h95
          have hda' : dgB false (g ((k : Int) + 1).toNat) = true := by rw [show ((k : Int) + 1).toNat = k + 1 from by omega]; exact hda
          by_cases hdb : 0 < k ∧ dgB false (g (k - 1)) = true
          · obtain ⟨hk0, hdb⟩ := hdb
            have hdb' : dgB false (g ((k : Int) - 1).toNat) = true := by rw [show ((k : Int) - 1).toNat = k - 1 from by omega]; exact hdb
            clear hbef
            go_wp2_with (go_at_call 32; refine (HD.out _ (by omega) (by omega)).mono ?_; rintro e w' ⟨rfl, rfl⟩)
            all_goals (
              go_round
              case rel => exact ⟨k + 1, by omega, by go_num⟩
              case measure => simp [intOf]; omega)
          · rcases hbef with h | ⟨h, _⟩
            · exact absurd h hdb
            · cases h
        · have e95 : (g k != 95) = true := by simp [h95]
          go_wp2
          go_round
          case rel => exact ⟨k + 1, by omega, by go_num⟩
          case measure => simp [intOf]; omega
      · go_wp2
        go_ret
        exact ⟨rfl, ((Below.refl _ _).alloc (Nat.le_refl _) _).alloc (by simp) _⟩
  · have HF : Hid (Fine g lit.size false false) := hf
    have HD : Hid (∀ j : Int, 0 ≤ j → j < lit.size → _) := fun j a b => digit_int lit g hb false j a b w
    clear hf hg1
    go_enter Try.func28, Try.ntmps28
    go_wp2_with (first
      | (go_at_call 30; refine (Try.strings_IndexByte _ _ _).mono ?_; rintro e w' ⟨rfl, rfl⟩)
      | (go_at_call 31; refine (lower_any _ _).mono ?_; rintro e w' ⟨rfl, rfl⟩))
    go_loop [34] (fun i => ∃ k : Nat, k ≤ lit.size ∧ i = .int .i64 k) (fun i => lit.size - (intOf i).toNat)
    case atStart => exact ⟨0, Nat.zero_le _, rfl⟩
    case round =>
      obtain ⟨k, hk, rfl⟩ := hrel
      by_cases hlt : k < lit.size
      · by_cases h95 : g k = 95
        · obtain ⟨hbef, haft, hda⟩ := HF.out k hlt h95
          have e95 : (g k != 95) = false := by simp [h95]
          clear h95
          have hda' : dgB false (g ((k : Int) + 1).toNat) = true := by rw [show ((k : Int) + 1).toNat = k + 1 from by omega]; exact hda
          by_cases hdb : 0 < k ∧ dgB false (g (k - 1)) = true
          · obtain ⟨hk0, hdb⟩ := hdb
            have hdb' : dgB false (g ((k : Int) - 1).toNat) = true := by rw [show ((k : Int) - 1).toNat = k - 1 from by omega]; exact hdb
            clear hbef
            go_wp2_with (go_at_call 32; refine (HD.out _ (by omega) (by omega)).mono ?_; rintro e w' ⟨rfl, rfl⟩)
            all_goals (
              go_round
              case rel => exact ⟨k + 1, by omega, by go_num⟩
              case measure => simp [intOf]; omega)
          · rcases hbef with h | ⟨h, _⟩
            · exact absurd h hdb
            · cases h
        · have e95 : (g k != 95) = true := by simp [h95]
          go_wp2
          go_round
          case rel => exact ⟨k + 1, by omega, by go_num⟩
          case measure => simp [intOf]; omega
      · go_wp2
        go_ret
        exact ⟨rfl, ((Below.refl _ _).alloc (Nat.le_refl _) _).alloc (by simp) _⟩
  · have HF : Hid (Fine g lit.size true hx) := hf
    have HD : Hid (∀ j : Int, 0 ≤ j → j < lit.size → _) := fun j a b => digit_int lit g hb hx j a b w
    obtain ⟨g10, g11⟩ := hg1 h1
    clear hf hg1
    go_enter Try.func28, Try.ntmps28
    go_wp2_with (first
      | (go_at_call 30; refine (Try.strings_IndexByte _ _ _).mono ?_; rintro e w' ⟨rfl, rfl⟩)
      | (go_at_call 31; refine (lower_any _ _).mono ?_; rintro e w' ⟨rfl, rfl⟩))
    go_loop [34] (fun i => ∃ k : Nat, k ≤ lit.size ∧ i = .int .i64 k) (fun i => lit.size - (intOf i).toNat)
    case atStart => exact ⟨0, Nat.zero_le _, rfl⟩
    case round =>
      obtain ⟨k, hk, rfl⟩ := hrel
      by_cases hlt : k < lit.size
      · by_cases h95 : g k = 95
        · obtain ⟨hbef, haft, hda⟩ := HF.out k hlt h95
          have e95 : (g k != 95) = false := by simp [h95]
          clear h95
          have hda' : dgB hx (g ((k : Int) + 1).toNat) = true := by rw [show ((k : Int) + 1).toNat = k + 1 from by omega]; exact hda
          by_cases hdb : 0 < k ∧ dgB hx (g (k - 1)) = true
          · obtain ⟨hk0, hdb⟩ := hdb
            have hdb' : dgB hx (g ((k : Int) - 1).toNat) = true := by rw [show ((k : Int) - 1).toNat = k - 1 from by omega]; exact hdb
            clear hbef
            go_wp2_with (go_at_call 32; refine (HD.out _ (by omega) (by omega)).mono ?_; rintro e w' ⟨rfl, rfl⟩)
            all_goals (
              go_round
              case rel => exact ⟨k + 1, by omega, by go_num⟩
              case measure => simp [intOf]; omega)
          · have hk2 : k = 2 := by
              rcases hbef with h | ⟨_, h⟩
              · exact absurd h hdb
              · exact h
            subst hk2
            have hdb' : dgB hx (g 1) = false := by
              cases h : dgB hx (g 1) with
              | false => rfl
              | true => exact absurd ⟨by omega, h⟩ hdb
            have hda3 : dgB hx (g 3) = true := hda
            clear hbef hdb hda hda'
            go_wp2_with (go_at_call 32; refine (HD.out _ (by omega) (by omega)).mono ?_; rintro e w' ⟨rfl, rfl⟩)
            all_goals (
              go_round
              case rel => exact ⟨3, by omega, by go_num⟩
              case measure => simp [intOf]; omega)
        · have e95 : (g k != 95) = true := by simp [h95]
          go_wp2
          go_round
          case rel => exact ⟨k + 1, by omega, by go_num⟩
          case measure => simp [intOf]; omega
      · go_wp2
        go_ret
        exact ⟨rfl, ((Below.refl _ _).alloc (Nat.le_refl _) _).alloc (by simp) _⟩

end Go.Proofs.Qxb6000773a
