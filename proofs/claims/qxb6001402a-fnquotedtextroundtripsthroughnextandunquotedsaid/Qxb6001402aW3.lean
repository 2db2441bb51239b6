import Derived.Test.Qxb6001402aW2
namespace Go.Proofs.Qxb6001402a
open Go.RowKit

/-- The length guard, laid by program. -/
theorem zzBytes13 (s : ByteArray) (v1 v2 : Value) (w : World) :
    Calls Try.prog 13 #[.string s, v1, v2] w fun e w' => e = .returned (.bool (decide (s.size ≤ 1048576))) ∧ w' = w := by
  by_cases h : s.size ≤ 1048576
  · go_enter Try.func13, Try.ntmps13
    go_wp2
    go_ret
    exact ⟨ret_bool (by simp [h]), rfl⟩
  · go_enter Try.func13, Try.ntmps13
    go_wp2
    go_ret
    exact ⟨ret_bool (by simp [h]), rfl⟩

theorem new_lex (w : World) (t : ByteArray) (p : Int) (bs aq ic en : Bool) : Lex (w.alloc (.cells #[.string t, .int .i64 p, .bool bs, .bool aq, .bool ic, .bool en] 35)) w.heap.size t p bs aq ic en := heap_alloc_new w _

theorem old_cell (w : World) (o : Obj) (m : Int) (hm : w.cell? ⟨0, 0, none⟩ = some (.int .i64 m)) : 0 < w.heap.size ∧ (w.alloc o).cell? ⟨0, 0, none⟩ = some (.int .i64 m) := by
  have h0 : 0 < w.heap.size := by
    rcases Nat.lt_or_ge 0 w.heap.size with h | h
    · exact h
    · simp [World.cell?, Array.getElem?_eq_none h] at hm
  exact ⟨h0, (World.cell?_of_block (w := w) (Below.heap_alloc w o 0 h0)).trans hm⟩

set_option maxRecDepth 100000 in
set_option maxHeartbeats 1000000 in
theorem zzSkip_any (t : ByteArray) (pos : Nat) (ic : Bool) (m : Int) (w : World) (ht : t.size ≤ 1048576) (hp : pos ≤ t.size) (hm : w.cell? ⟨0, 0, none⟩ = some (.int .i64 m)) :
    Calls Try.prog 12 #[.string t, .int .i64 pos, .bool ic] w fun e w' => ∃ (p : Nat) (c : Bool), e = .returned (.tuple #[.int .i64 p, .bool c]) ∧ pos ≤ p ∧ p ≤ t.size ∧ (p < t.size → StopAt (t.extract p t.size) c) ∧ Below w.heap.size w w' := by
  obtain ⟨h0, hm1⟩ := old_cell w (.cells #[.string t, .int .i64 pos, .bool false, .bool false, .bool ic, .bool false] 35) m hm
  have h22 := skip_any t pos false false ic false w.heap.size m _ ht hp h0 hm1 (new_lex w t pos false false ic false)
  go_enter Try.func12, Try.ntmps12
  go_wp2_with fail
  refine h22.mono ?_
  rintro e w1 ⟨rfl, p, c, a1, a2, hL, hO, hS, _⟩
  clear h22
  have c1 : w1.cell? ⟨w.heap.size, 1, none⟩ = some (.int .i64 p) := hL.cell 1
  have c4 : w1.cell? ⟨w.heap.size, 4, none⟩ = some (.bool c) := hL.cell 4
  go_wp2
  go_quiet (fail)
  go_wp2
  go_ret2
  exact ⟨p, c, rfl, a1, a2, hS, below_drewN (((Below.refl _ w).alloc (Nat.le_refl _) _).trans hO.below) _⟩


theorem no_pre2 (R : ByteArray) (a b : UInt8) (h : Lib.hasPrefix R.data.toList [a, b] = false) (h2 : 2 ≤ R.size) (e0 : (R[0]'(by omega)) = a) : (R[1]'(by omega)) ≠ b := by
  intro e1
  obtain ⟨⟨l⟩⟩ := R
  match l, h2, e0, e1, h with
  | x :: y :: r, _, e0, e1, h =>
    have e0' : x = a := e0
    have e1' : y = b := e1
    subst e0'; subst e1'
    simp [Lib.hasPrefix, List.isPrefixOf] at h

theorem yes_pre2 (R : ByteArray) (a b : UInt8) (h2 : 2 ≤ R.size) (e0 : (R[0]'(by omega)) = a) (e1 : (R[1]'(by omega)) = b) : Lib.hasPrefix R.data.toList [a, b] = true := by
  obtain ⟨⟨l⟩⟩ := R
  match l, h2, e0, e1 with
  | x :: y :: r, _, e0, e1 =>
    have e0' : x = a := e0
    have e1' : y = b := e1
    subst e0'; subst e1'
    simp [Lib.hasPrefix, List.isPrefixOf]

theorem byte_eq {x : UInt8} (n : Nat) (hn : n < 256) (h : (x.toNat : Int) = n) : x = UInt8.ofNat n := by
  apply UInt8.toNat_inj.1
  simp
  omega

/-- What the law looks at, said of the bytes as numbers. -/
theorem stop_facts (R : ByteArray) (c : Bool) (h : StopAt R c) : 0 < R.size ∧ ∃ g : Nat → Int, (∀ (i : Nat) (hi : i < R.size), ((R[i]'hi).toNat : Int) = g i) ∧ ¬ g 0 ≤ 32 ∧ g 0 ≠ 127 ∧ g 0 ≠ 35 ∧
    (2 ≤ R.size → ¬ (g 0 = 47 ∧ g 1 = 42)) ∧ (2 ≤ R.size → g 0 = 45 → g 1 = 45 → 2 < R.size ∧ ¬ g 2 ≤ 32 ∧ g 2 ≠ 127) ∧ (c = true → 2 ≤ R.size → ¬ (g 0 = 42 ∧ g 1 = 47)) := by
  obtain ⟨⟨h0, s0, s1⟩, s2, s3, s4⟩ := h
  refine ⟨h0, fun i => if hi : i < R.size then ((R[i]'hi).toNat : Int) else 0, fun i hi => by simp only [hi, dif_pos], ?_⟩
  simp only [h0, dif_pos]
  simp only [spB, decide_eq_false_iff_not] at s0
  have s1' : ((R[0]'h0).toNat : Int) ≠ 35 := by simpa using s1
  refine ⟨by omega, by omega, s1', ?_, ?_, ?_⟩
  · intro h2 ⟨e0, e1⟩
    rw [dif_pos (show 1 < R.size by omega)] at e1
    exact no_pre2 R 47 42 s3 h2 (byte_eq 47 (by decide) (by omega)) (byte_eq 42 (by decide) (by omega))
  · intro h2 e0 e1
    rw [dif_pos (show 1 < R.size by omega)] at e1
    obtain ⟨q1, q2⟩ := s2 (yes_pre2 R 45 45 h2 (byte_eq 45 (by decide) (by omega)) (byte_eq 45 (by decide) (by omega)))
    simp only [spB, decide_eq_false_iff_not] at q2
    rw [dif_pos q1]
    exact ⟨q1, by omega, by omega⟩
  · intro hc h2 ⟨e0, e1⟩
    rw [dif_pos (show 1 < R.size by omega)] at e1
    exact no_pre2 R 42 47 (s4 hc) h2 (byte_eq 42 (by decide) (by omega)) (byte_eq 47 (by decide) (by omega))

theorem law4_long (t : ByteArray) (pos : Int) (ic : Bool) (w : World) (ht : 1048576 < t.size) :
    Calls Try.prog 4 #[.string t, .int .i64 pos, .bool ic] w fun e w' => e = .returned (.bool true) ∧ Below w.heap.size w w' := by
  have h13 := zzBytes13 t (.int .i64 pos) (.bool ic) w
  rw [decide_eq_false (by omega)] at h13
  go_enter Try.func4, Try.ntmps4
  go_wp2_with (go_at_call 13; refine h13.mono ?_; rintro e w' ⟨rfl, rfl⟩)
  go_ret
  exact ⟨rfl, Below.refl _ _⟩

set_option maxHeartbeats 400000 in
theorem law4_out (t : ByteArray) (pos : Int) (ic : Bool) (w : World) (ht : t.size ≤ 1048576) (hp : pos < 0 ∨ (t.size : Int) < pos) :
    Calls Try.prog 4 #[.string t, .int .i64 pos, .bool ic] w fun e w' => e = .returned (.bool true) ∧ Below w.heap.size w w' := by
  have h13 := zzBytes13 t (.int .i64 pos) (.bool ic) w
  rw [decide_eq_true ht] at h13
  rcases hp with hp | hp
  · go_enter Try.func4, Try.ntmps4
    go_wp2_with (go_at_call 13; refine h13.mono ?_; rintro e w' ⟨rfl, rfl⟩)
    go_ret
    exact ⟨rfl, Below.refl _ _⟩
  · have hp0 : ¬ pos < 0 := by omega
    go_enter Try.func4, Try.ntmps4
    go_wp2_with (go_at_call 13; refine h13.mono ?_; rintro e w' ⟨rfl, rfl⟩)
    go_ret
    exact ⟨rfl, Below.refl _ _⟩

set_option maxRecDepth 100000 in
set_option maxHeartbeats 4000000 in
theorem law4_main (t : ByteArray) (pos : Nat) (ic : Bool) (m : Int) (w : World) (ht : t.size ≤ 1048576) (hp : pos ≤ t.size) (hm : w.cell? ⟨0, 0, none⟩ = some (.int .i64 m)) :
    Calls Try.prog 4 #[.string t, .int .i64 pos, .bool ic] w fun e w' => e = .returned (.bool true) ∧ Below w.heap.size w w' := by
  have h13 := zzBytes13 t (.int .i64 pos) (.bool ic) w
  rw [decide_eq_true ht] at h13
  have h12 := zzSkip_any t pos ic m w ht hp hm
  go_enter Try.func4, Try.ntmps4
  go_wp2_with fail
  refine h13.mono ?_
  rintro e w' ⟨rfl, hw'⟩
  obtain rfl := hw'.symm
  clear h13
  go_wp2_with fail
  refine h12.mono ?_
  rintro e w1 ⟨p, c, rfl, a1, a2, hS, hb⟩
  clear h12
  by_cases he : p = t.size
  · subst he
    go_wp2
    go_ret
    exact ⟨rfl, hb⟩
  · have hlt : p < t.size := by omega
    have heb : ((p : Int) == (t.size : Int)) = false := beq_eq_false_iff_ne.2 (by omega)
    obtain ⟨R, hR⟩ : ∃ R, t.extract p t.size = R := ⟨_, rfl⟩
    have hst := hS hlt
    rw [hR] at hst
    obtain ⟨h0, g, hg, g1, g2, g3, F1, F2, F3⟩ := stop_facts R c hst
    have g2' : (g 0 == 127) = false := beq_eq_false_iff_ne.2 g2
    have g3' : (g 0 == 35) = false := beq_eq_false_iff_ne.2 g3
    have hRm : R.size ≤ 1048576 := by rw [← hR]; simp; omega
    clear hS hst he
    by_cases h2 : 2 ≤ R.size
    · have F1 := F1 h2
      have F2 := F2 h2
      by_cases k47 : g 0 = 47
      · have e1 : (g 0 == 47) = true := beq_iff_eq.2 k47
        have e2 : (g 1 == 42) = false := beq_eq_false_iff_ne.2 (fun h => F1 ⟨k47, h⟩)
        have e3 : (g 0 == 45) = false := beq_eq_false_iff_ne.2 (by omega)
        have e4 : (g 0 == 42) = false := beq_eq_false_iff_ne.2 (by omega)
        clear F1 F2 F3 k47 g2 g3
        cases c
        all_goals (go_wp2; go_ret; exact ⟨rfl, hb⟩)
      · have e1 : (g 0 == 47) = false := beq_eq_false_iff_ne.2 k47
        by_cases k45 : g 0 = 45
        · have e3 : (g 0 == 45) = true := beq_iff_eq.2 k45
          have e4 : (g 0 == 42) = false := beq_eq_false_iff_ne.2 (by omega)
          by_cases k1 : g 1 = 45
          · obtain ⟨q1, q2, q3⟩ := F2 k45 k1
            have e5 : (g 1 == 45) = true := beq_iff_eq.2 k1
            have e6 : ((R.size : Int) == 2) = false := beq_eq_false_iff_ne.2 (by omega)
            have e7 : (g 2 == 127) = false := beq_eq_false_iff_ne.2 q3
            clear F1 F2 F3 k47 k45 k1 g2 g3 q3
            cases c
            all_goals (go_wp2; go_ret; exact ⟨rfl, hb⟩)
          · have e5 : (g 1 == 45) = false := beq_eq_false_iff_ne.2 k1
            clear F1 F2 F3 k47 k45 k1 g2 g3
            cases c
            all_goals (go_wp2; go_ret; exact ⟨rfl, hb⟩)
        · have e3 : (g 0 == 45) = false := beq_eq_false_iff_ne.2 k45
          by_cases k42 : g 0 = 42
          · have e4 : (g 0 == 42) = true := beq_iff_eq.2 k42
            cases c
            · clear F1 F2 F3 k47 k45 k42 g2 g3
              go_wp2
              go_ret
              exact ⟨rfl, hb⟩
            · have e5 : (g 1 == 47) = false := beq_eq_false_iff_ne.2 (fun h => F3 rfl h2 ⟨k42, h⟩)
              clear F1 F2 F3 k47 k45 k42 g2 g3
              go_wp2
              go_ret
              exact ⟨rfl, hb⟩
          · have e4 : (g 0 == 42) = false := beq_eq_false_iff_ne.2 k42
            clear F1 F2 F3 k47 k45 k42 g2 g3
            cases c
            all_goals (go_wp2; go_ret; exact ⟨rfl, hb⟩)
    · clear F1 F2 F3
      cases c
      all_goals
        go_wp2
        go_ret
        exact ⟨rfl, hb⟩

end Go.Proofs.Qxb6001402a
