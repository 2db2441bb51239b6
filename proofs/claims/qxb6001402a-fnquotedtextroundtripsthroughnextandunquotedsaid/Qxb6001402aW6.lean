import Derived.Test.Qxb6001402aW3
import Derived.Test.Qxb6001402aW5
namespace Go.Proofs.Qxb6001402a
open Go.RowKit

/-- The length guard, laid by program. -/
theorem zzBytes15 (s : ByteArray) (v1 v2 v3 v4 v5 : Value) (w : World) :
    Calls Try.prog 15 #[.string s, v1, v2, v3, v4, v5] w fun e w' => e = .returned (.bool (decide (s.size ≤ 1048576))) ∧ w' = w := by
  by_cases h : s.size ≤ 1048576
  · go_enter Try.func15, Try.ntmps15
    go_wp2
    go_ret
    exact ⟨ret_bool (by simp [h]), rfl⟩
  · go_enter Try.func15, Try.ntmps15
    go_wp2
    go_ret
    exact ⟨ret_bool (by simp [h]), rfl⟩

set_option maxRecDepth 100000 in
set_option maxHeartbeats 1000000 in
theorem zzNext_ended (t : ByteArray) (pos : Nat) (bs aq ic : Bool) (w : World) :
    Calls Try.prog 16 #[.string t, .int .i64 pos, .bool bs, .bool aq, .bool ic, .bool true] w fun e w' => e = .returned (.tuple #[.int .i64 0, .string ⟨#[]⟩, .bool false, .int .i64 pos, .bool ic, .bool true]) ∧ Below w.heap.size w w' := by
  have h23 := next_ended t pos bs aq ic w.heap.size _ (new_lex w t pos bs aq ic true)
  go_enter Try.func16, Try.ntmps16
  go_wp2_with fail
  refine h23.mono ?_
  rintro e w1 ⟨rfl, hL, hO⟩
  clear h23
  have c1 : ∀ o, (w1.alloc o).cell? ⟨w.heap.size, 1, none⟩ = some (.int .i64 pos) := fun o => (hL.alloc o).cell 1
  have c4 : ∀ o, (w1.alloc o).cell? ⟨w.heap.size, 4, none⟩ = some (.bool ic) := fun o => (hL.alloc o).cell 4
  have c5 : ∀ o, (w1.alloc o).cell? ⟨w.heap.size, 5, none⟩ = some (.bool true) := fun o => (hL.alloc o).cell 5
  have hlt := hL.lt
  go_wp2
  go_quiet (fail)
  go_wp2
  exact bodyPost_ret (by simp [results, Try.results16, go_sem]) rfl ⟨rfl, below_drewN ((((Below.refl _ w).alloc (Nat.le_refl _) _).trans hO).alloc (Nat.le_of_lt hlt) _) _⟩

set_option maxRecDepth 100000 in
set_option maxHeartbeats 1000000 in
theorem zzNext_any (t : ByteArray) (g : Nat → Int) (hg : ∀ (i : Nat) (h : i < t.size), ((t[i]'h).toNat : Int) = g i) (pos : Nat) (bs aq ic : Bool) (m : Int) (w : World) (ht : t.size ≤ 1048576) (hp : pos ≤ t.size) (hm : w.cell? ⟨0, 0, none⟩ = some (.int .i64 m)) :
    Calls Try.prog 16 #[.string t, .int .i64 pos, .bool bs, .bool aq, .bool ic, .bool false] w fun e w' => ∃ (k : Int) (tok : ByteArray) (esc : Bool) (p : Nat) (c en : Bool), e = .returned (.tuple #[.int .i64 k, .string tok, .bool esc, .int .i64 p, .bool c, .bool en]) ∧ Below w.heap.size w w' ∧ pos ≤ p ∧ p ≤ t.size ∧
    ((k = 0 ∧ tok = ⟨#[]⟩ ∧ en = true) ∨ (k ≠ 0 ∧ en = false ∧ ∃ p1, pos ≤ p1 ∧ p1 < p ∧ tok = t.extract p1 p)) ∧
    (StopAt (t.extract pos t.size) ic → isQ (g pos) = true → k = 2 ∧ en = false ∧ c = ic ∧ esc = escOf (g pos) bs aq ∧ tok = t.extract pos p ∧ p = qEnd g t.size (g pos) esc t.size (pos + 1)) := by
  obtain ⟨h0, hm1⟩ := old_cell w (.cells #[.string t, .int .i64 pos, .bool bs, .bool aq, .bool ic, .bool false] 35) m hm
  have h23 := next_any t g hg pos bs aq ic w.heap.size m _ ht hp h0 hm1 (new_lex w t pos bs aq ic false)
  go_enter Try.func16, Try.ntmps16
  go_wp2_with fail
  refine h23.mono ?_
  rintro e w1 ⟨k, tok, esc, p, c, en, rfl, hL, hO, a1, a2, a3, a4⟩
  clear h23
  have c1 : ∀ o, (w1.alloc o).cell? ⟨w.heap.size, 1, none⟩ = some (.int .i64 p) := fun o => (hL.alloc o).cell 1
  have c4 : ∀ o, (w1.alloc o).cell? ⟨w.heap.size, 4, none⟩ = some (.bool c) := fun o => (hL.alloc o).cell 4
  have c5 : ∀ o, (w1.alloc o).cell? ⟨w.heap.size, 5, none⟩ = some (.bool en) := fun o => (hL.alloc o).cell 5
  have hlt := hL.lt
  have A3 : Hid _ := a3
  have A4 : Hid _ := a4
  clear a3 a4 hm1
  go_wp2
  go_quiet (fail)
  go_wp2
  exact bodyPost_ret (by simp [results, Try.results16, go_sem]) rfl ⟨k, tok, esc, p, c, en, rfl, below_drewN ((((Below.refl _ w).alloc (Nat.le_refl _) _).trans hO).alloc (Nat.le_of_lt hlt) _) _, a1, a2, A3.out, A4.out⟩

theorem law6_long (t : ByteArray) (pos : Int) (bs aq ic en : Bool) (w : World) (ht : 1048576 < t.size) :
    Calls Try.prog 6 #[.string t, .int .i64 pos, .bool bs, .bool aq, .bool ic, .bool en] w fun e w' => e = .returned (.bool true) ∧ Below w.heap.size w w' := by
  have h15 := zzBytes15 t (.int .i64 pos) (.bool bs) (.bool aq) (.bool ic) (.bool en) w
  rw [decide_eq_false (by omega)] at h15
  go_enter Try.func6, Try.ntmps6
  go_wp2_with (go_at_call 15; refine h15.mono ?_; rintro e w' ⟨rfl, rfl⟩)
  go_ret
  exact ⟨rfl, Below.refl _ _⟩

set_option maxHeartbeats 400000 in
theorem law6_out (t : ByteArray) (pos : Int) (bs aq ic en : Bool) (w : World) (ht : t.size ≤ 1048576) (hp : pos < 0 ∨ (t.size : Int) < pos) :
    Calls Try.prog 6 #[.string t, .int .i64 pos, .bool bs, .bool aq, .bool ic, .bool en] w fun e w' => e = .returned (.bool true) ∧ Below w.heap.size w w' := by
  have h15 := zzBytes15 t (.int .i64 pos) (.bool bs) (.bool aq) (.bool ic) (.bool en) w
  rw [decide_eq_true ht] at h15
  rcases hp with hp | hp
  · go_enter Try.func6, Try.ntmps6
    go_wp2_with (go_at_call 15; refine h15.mono ?_; rintro e w' ⟨rfl, rfl⟩)
    go_ret
    exact ⟨rfl, Below.refl _ _⟩
  · have hp0 : ¬ pos < 0 := by omega
    go_enter Try.func6, Try.ntmps6
    go_wp2_with (go_at_call 15; refine h15.mono ?_; rintro e w' ⟨rfl, rfl⟩)
    go_ret
    exact ⟨rfl, Below.refl _ _⟩

set_option maxRecDepth 100000 in
set_option maxHeartbeats 1000000 in
theorem law6_ended (t : ByteArray) (pos : Nat) (bs aq ic : Bool) (w : World) (ht : t.size ≤ 1048576) (hp : pos ≤ t.size) :
    Calls Try.prog 6 #[.string t, .int .i64 pos, .bool bs, .bool aq, .bool ic, .bool true] w fun e w' => e = .returned (.bool true) ∧ Below w.heap.size w w' := by
  have h15 := zzBytes15 t (.int .i64 pos) (.bool bs) (.bool aq) (.bool ic) (.bool true) w
  rw [decide_eq_true ht] at h15
  have h16 := zzNext_ended t pos bs aq ic w
  go_enter Try.func6, Try.ntmps6
  go_wp2_with fail
  refine h15.mono ?_
  rintro e w' ⟨rfl, hw'⟩
  obtain rfl := hw'.symm
  clear h15
  go_wp2_with fail
  refine h16.mono ?_
  rintro e w1 ⟨rfl, hb⟩
  clear h16
  go_wp2
  go_ret
  exact ⟨ret_bool (by simp), hb⟩

set_option maxRecDepth 100000 in
set_option maxHeartbeats 1000000 in
theorem law6_main (t : ByteArray) (pos : Nat) (bs aq ic : Bool) (m : Int) (w : World) (ht : t.size ≤ 1048576) (hp : pos ≤ t.size) (hm : w.cell? ⟨0, 0, none⟩ = some (.int .i64 m)) :
    Calls Try.prog 6 #[.string t, .int .i64 pos, .bool bs, .bool aq, .bool ic, .bool false] w fun e w' => e = .returned (.bool true) ∧ Below w.heap.size w w' := by
  have h15 := zzBytes15 t (.int .i64 pos) (.bool bs) (.bool aq) (.bool ic) (.bool false) w
  rw [decide_eq_true ht] at h15
  have h16 := zzNext_any t (fun i => if h : i < t.size then ((t[i]'h).toNat : Int) else 0) (fun i h => by simp only [h, dif_pos]) pos bs aq ic m w ht hp hm
  go_enter Try.func6, Try.ntmps6
  go_wp2_with fail
  refine h15.mono ?_
  rintro e w' ⟨rfl, hw'⟩
  obtain rfl := hw'.symm
  clear h15
  go_wp2_with fail
  refine h16.mono ?_
  rintro e w1 ⟨k, tok, esc, p, c, en, rfl, hb, a1, a2, a3, _⟩
  clear h16
  rcases a3 with ⟨rfl, rfl, rfl⟩ | ⟨hk, rfl, p1, b1, b2, b3⟩
  · go_wp2
    go_ret
    exact ⟨rfl, hb⟩
  · have hk' : (k == 0) = false := beq_eq_false_iff_ne.2 hk
    have hts : tok.size = p - p1 := by rw [b3]; simp; omega
    obtain ⟨n, hn⟩ : ∃ n, tok.size = n := ⟨_, rfl⟩
    obtain rfl : p = p1 + n := by omega
    have hn0 : 0 < n := by omega
    have hn1 : ((n : Int) == 0) = false := beq_eq_false_iff_ne.2 (by omega)
    have hx : t.extract p1 (p1 + n) = tok := b3.symm
    clear b3 hts hk
    go_wp2
    go_ret
    exact ⟨rfl, hb⟩

end Go.Proofs.Qxb6001402a
