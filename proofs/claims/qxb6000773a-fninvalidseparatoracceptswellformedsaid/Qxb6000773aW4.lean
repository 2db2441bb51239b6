import Derived.Test.Qxb6000773aLaw
namespace Go.Proofs.Qxb6000773a
open Go.RowKit

theorem zzInv_any (lit : ByteArray) (w : World) (h : Calls Try.prog 28 #[.string lit] w fun e w' => e = .returned (.int .i64 (-1)) ∧ Below w.heap.size w w') :
    Calls Try.prog 18 #[.string lit] w fun e w' => e = .returned (.int .i64 (-1)) ∧ Below w.heap.size w w' := by
  go_enter Try.func18, Try.ntmps18
  go_wp2_with (go_at_call 28; refine h.mono ?_; rintro e w' ⟨rfl, hb⟩)
  go_ret
  exact ⟨rfl, hb⟩

/-- Too long: the law says nothing. -/
theorem law_long (base : Int) (s : ByteArray) (a : Option Addr) (n c : Nat) (w : World) (hs : s.size ≤ 9223372036854775807) (hn : n ≤ 9223372036854775807) (h : 65536 < s.size ∨ 65536 < n) :
    Calls Try.prog 8 #[.int .u8 base, .string s, .slice a n c] w fun e w' => e = .returned (.bool true) ∧ Below w.heap.size w w' := by
  have h22 := zzBytes_any (.int .u8 base) s a n c hs hn w
  cases hz : decide (s.size ≤ 1048576 ∧ n ≤ 1048576 ∧ s.size + n ≤ 1048576) with
  | false =>
    rw [hz] at h22
    clear hz
    go_enter Try.func8, Try.ntmps8
    go_wp2_with (go_at_call 22; refine h22.mono ?_; rintro e w' ⟨rfl, rfl⟩)
    go_ret
    exact ⟨rfl, Below.refl _ _⟩
  | true =>
    rw [hz] at h22
    clear hz
    by_cases h1 : 65536 < s.size
    · go_enter Try.func8, Try.ntmps8
      go_wp2_with (go_at_call 22; refine h22.mono ?_; rintro e w' ⟨rfl, rfl⟩)
      go_ret
      exact ⟨rfl, Below.refl _ _⟩
    · have h2 : 65536 < n := by omega
      go_enter Try.func8, Try.ntmps8
      go_wp2_with (go_at_call 22; refine h22.mono ?_; rintro e w' ⟨rfl, rfl⟩)
      go_ret
      exact ⟨rfl, Below.refl _ _⟩

theorem one_cell (w : World) (u : Value) (t : TypeId) : ∀ j v, [u][j]? = some v → (w.alloc (.cells #[u] t)).cell? ((⟨w.heap.size, 0, none⟩ : Addr).add j) = some v := by
  intro j v hj
  match j, hj with
  | 0, hj => simp at hj; subst hj; simp [Addr.add]
theorem one_one (k : IntKind) (x : Int) : ∀ u ∈ [Value.int k x], u.oneCell' = true := by
  intro u hu
  simp at hu
  subst hu
  rfl

def dOf (s : ByteArray) (i : Nat) : Int := if h : i < s.size then ((s[i]'h).toNat : Int) else 0
theorem dOf_at (s : ByteArray) (i : Nat) (h : i < s.size) : dOf s i = ((s[i]'h).toNat : Int) := by unfold dOf; rw [dif_pos h]

theorem own_step1 {w : World} {b cap : Nat} {A : Option Addr} {L L' : List Int} {x : Int} (h : w.ownsRow b 5 1 (.slice A (L.length + 1) cap) (L.length + 1) (L.map (Value.int .u8) ++ [.int .u8 x])) (e : L' = L ++ [x]) :
    w.ownsRow b 5 1 (.slice A L'.length cap) L'.length (L'.map (Value.int .u8)) := by
  subst e
  simpa using h
theorem own_step2 {w : World} {b cap : Nat} {A : Option Addr} {L L' : List Int} {x y : Int} (h : w.ownsRow b 5 1 (.slice A (L.length + 1 + 1) cap) (L.length + 1 + 1) (L.map (Value.int .u8) ++ [.int .u8 x] ++ [.int .u8 y])) (e : L' = L ++ [x, y]) :
    w.ownsRow b 5 1 (.slice A L'.length cap) L'.length (L'.map (Value.int .u8)) := by
  subst e
  simpa using h
theorem len_step1 {A : Option Addr} {cap : Nat} {L L' : List Int} {x : Int} (e : L' = L ++ [x]) : Value.slice A (L.length + 1) cap = .slice A L'.length cap := by subst e; simp
theorem len_step2 {A : Option Addr} {cap : Nat} {L L' : List Int} {x y : Int} (e : L' = L ++ [x, y]) : Value.slice A (L.length + 1 + 1) cap = .slice A L'.length cap := by subst e; simp

theorem start_zero {w : World} {b cap : Nat} {A : Option Addr} (K : Int) (U : Bool) (sep : Nat → Bool) (d : Nat → Int) (h : K = 0) (ho : w.ownsRow b 5 1 (.slice A 0 cap) 0 []) :
    w.ownsRow b 5 1 (.slice A (litL K U sep d 0).length cap) (litL K U sep d 0).length ((litL K U sep d 0).map (Value.int .u8)) := by
  subst h
  exact ho
theorem start_zero_len (K : Int) (U : Bool) (sep : Nat → Bool) (d : Nat → Int) (h : K = 0) (A : Option Addr) (cap : Nat) : Value.slice A 0 cap = .slice A (litL K U sep d 0).length cap := by
  subst h
  rfl
theorem start_pos {w : World} {b cap : Nat} {A : Option Addr} (K : Int) (U : Bool) (sep : Nat → Bool) (d : Nat → Int) (h : K ≠ 0) (ho : w.ownsRow b 5 1 (.slice A (0 + 1 + 1) cap) (0 + 1 + 1) ([] ++ [.int .u8 48] ++ [.int .u8 (letterOf K U)])) :
    w.ownsRow b 5 1 (.slice A (litL K U sep d 0).length cap) (litL K U sep d 0).length ((litL K U sep d 0).map (Value.int .u8)) := by
  have e : litL K U sep d 0 = [48, letterOf K U] := by unfold litL preL; rw [if_neg h]
  rw [e]
  exact ho
theorem start_pos_len (K : Int) (U : Bool) (sep : Nat → Bool) (d : Nat → Int) (h : K ≠ 0) (A : Option Addr) (cap : Nat) : Value.slice A 2 cap = .slice A (litL K U sep d 0).length cap := by
  have e : litL K U sep d 0 = [48, letterOf K U] := by unfold litL preL; rw [if_neg h]
  rw [e]
  rfl

theorem conv_own {w : World} {b G cap : Nat} {L : List Int} (h : w.ownsRow b 5 1 (.slice (some ⟨G, 0, none⟩) L.length cap) L.length (L.map (Value.int .u8))) :
    (convert 41 9 (.slice (some ⟨G, 0, none⟩) L.length cap)).run Try.prog w = .ok (.string (strOfNums L)) w :=
  run_convert_bytes_arg w 41 5 Try.underlying41 Try.underlying5 G 0 L.length cap L rfl (fun j hj => by
    have := h.cellAt j (by omega)
    rw [Nat.zero_add, this]
    simp [List.getD, hj]) 9 Try.underlying9

set_option maxHeartbeats 2000000 in
set_option maxRecDepth 100000 in
theorem law_zero (base K : Int) (U : Bool) (s : ByteArray) (a : Option Addr) (n c : Nat) (B : Nat → Bool) (w : World) (b0 : 0 ≤ base) (b1 : base ≤ 255) (hs : s.size ≤ 65536) (hn : n ≤ 65536) (hK : base % 4 = K) (k0 : 0 ≤ K) (k1 : K ≤ 0) (hU : (base / 4 % 2 == 1) = U) (hM : MarksIn a n c B w) :
    Calls Try.prog 8 #[.int .u8 base, .string s, .slice a n c] w fun e w' => e = .returned (.bool true) ∧ Below w.heap.size w w' := by
  have h22 : Calls Try.prog 22 #[.int .u8 base, .string s, .slice a n c] w fun e w' => e = .returned (.bool true) ∧ w' = w := by
    have h := zzBytes_any (.int .u8 base) s a n c (by omega) (by omega) w
    have hz : decide (s.size ≤ 1048576 ∧ n ≤ 1048576 ∧ s.size + n ≤ 1048576) = true := decide_eq_true (by omega)
    rw [hz] at h
    exact h
  have h23 := clone_any a n c B w hn hM
  obtain ⟨i0, hi, hz0, hz1, hz2⟩ := info_parts Try.info5
  go_enter Try.func8, Try.ntmps8
  go_wp2_with fail
  refine h22.mono ?_
  rintro e w' ⟨rfl, rfl⟩
  clear h22
  go_wp2_with fail
  refine h23.mono ?_
  rintro e w1 ⟨ao, rfl, hA, hb1⟩
  clear h23 hM
  go_wp2_with (at_make; refine wpList_make_own _ rfl _ _ 41 rfl w1.heap.size 5 i0 (.int .u8 0) 1 Try.underlying41 hi hz0 hz1 _ _ _ (2 * s.size + 2) rfl rfl (by omega) ?b2 ?b3 (Nat.le_refl _) ?_)
  case b2 => rw [hz2]; omega
  case b3 => unfold maxLen; omega
  intro w2 hown2 hgrow2
  have hB2 : Below w1.heap.size w1 w2 := (Below.refl _ _).grown hgrow2 (Nat.le_refl _) (fun k h => by cases h)
  clear hgrow2
  have hBS := hB2
  have hownS := hown2
  clear hown2 hB2
  go_wp2
  obtain ⟨sep, hsep⟩ : ∃ sep : Nat → Bool, sep = fun i => decide (i < n) && B i := ⟨_, rfl⟩
  have HSEP : Hid (sep = fun i => decide (i < n) && B i) := hsep
  clear hsep
  have hownS := start_zero K U sep (dOf s) (by omega) hownS
  go_loopw [9, 10] (fun bv iv wr => ∃ i : Nat, i ≤ s.size ∧ iv = .int .i64 i ∧ bv = .slice (some ⟨w1.heap.size, 0, none⟩) (litL K U sep (dOf s) i).length (2 * s.size + 2) ∧ wr.ownsRow w1.heap.size 5 1 (.slice (some ⟨w1.heap.size, 0, none⟩) (litL K U sep (dOf s) i).length (2 * s.size + 2)) (litL K U sep (dOf s) i).length ((litL K U sep (dOf s) i).map (Value.int .u8)) ∧ Below w1.heap.size w1 wr)
    (fun _ iv _ => s.size - (intOf iv).toNat)
  case atStart => exact ⟨0, Nat.zero_le _, rfl, (start_zero_len K U sep (dOf s) (by omega) _ _), hownS, hBS⟩
  case round =>
    obtain ⟨i, hi', rfl, rfl, hown, hB⟩ := hrel
    have hlen := len_all K U sep (dOf s) i
    have hsz := hB.size
    by_cases hlt : i < s.size
    · have hd0 := (s[i]'hlt).toNat_lt
      have hdi := dOf_at s i hlt
      have hstep : litL K U sep (dOf s) (i + 1) = litL K U sep (dOf s) i ++ stepL K sep (dOf s) i := rfl
      by_cases hmark : (decide (i < n) && B i) = true
      · rw [Bool.and_eq_true, decide_eq_true_eq] at hmark
        obtain ⟨hin, hBi⟩ := hmark
        obtain ⟨g, hg1, hg2, hg3⟩ := hA i hin
        subst hg1
        have hc : wr.cell? ⟨g, i, none⟩ = some (.bool true) := by rw [← hBi]; exact (hB.cell (by exact hg2)).trans hg3
        have hse : sep i = true := by rw [HSEP.out]; simp [hin, hBi]
        by_cases h0 : 0 < i
        · have hst : stepL K sep (dOf s) i = [95, digitI K ((s[i]'hlt).toNat : Int)] := by unfold stepL sepB; rw [hse, hdi]; simp [h0]
          rw [hst] at hstep
          have HST : Hid (litL K U sep (dOf s) (i + 1) = litL K U sep (dOf s) i ++ [95, digitI K ((s[i]'hlt).toNat : Int)]) := hstep
          clear hstep hst hse hdi hBi hg3
          go_wp2_with (first
            | (go_at_call 25; refine (digitOf_any _ _ (by omega) (by omega) _).mono ?_; rintro e w' ⟨rfl, hw'⟩; obtain rfl := hw'.symm)
            | (at_builtin; refine wpList_append_fits _ rfl (.tmp 71) (.tmp 72) 41 rfl w1.heap.size 5 i0 1 Try.underlying41 hi hz1 w1.heap.size _ (2 * s.size + 2) _ rfl (hown.alloc _) ⟨wr.heap.size, 0, none⟩ 1 1 [.int .u8 95] rfl rfl (one_cell _ _ _) (one_one _ _) (by omega) ?_; intro w3 hown3 hgrow3)
            | (at_builtin; refine wpList_append_fits _ rfl (.tmp 74) (.tmp 80) 41 rfl w1.heap.size 5 i0 1 Try.underlying41 hi hz1 w1.heap.size _ (2 * s.size + 2) _ rfl (hown3.alloc _) ⟨w3.heap.size, 0, none⟩ 1 1 [.int .u8 (digitI K ((s[i]'hlt).toNat : Int))] rfl rfl (one_cell _ _ _) (one_one _ _) (by omega) ?_; intro w4 hown4 hgrow4))
          have hB3 : Below w1.heap.size w1 w3 := (hB.alloc hsz _).grown hgrow3 (by simp; omega) (fun k hk => by cases hk; exact Nat.le_refl _)
          go_roundw
          case rel => exact ⟨i + 1, by omega, by go_num, len_step2 HST.out, own_step2 hown4 HST.out, (hB3.alloc hB3.size _).grown hgrow4 (by have := hB3.size; simp; omega) (fun k hk => by cases hk; exact Nat.le_refl _)⟩
          case measure => simp [intOf]; omega
        · have hst : stepL K sep (dOf s) i = [digitI K ((s[i]'hlt).toNat : Int)] := by unfold stepL sepB; rw [hse, hdi]; simp [show ¬ 0 < i from h0, show ¬ 0 < K from by omega]
          rw [hst] at hstep
          have HST : Hid (litL K U sep (dOf s) (i + 1) = litL K U sep (dOf s) i ++ [digitI K ((s[i]'hlt).toNat : Int)]) := hstep
          clear hstep hst hse hdi hBi hg3
          go_wp2_with (first
            | (go_at_call 25; refine (digitOf_any _ _ (by omega) (by omega) _).mono ?_; rintro e w' ⟨rfl, hw'⟩; obtain rfl := hw'.symm)
            | (at_builtin; refine wpList_append_fits _ rfl (.tmp 74) (.tmp 80) 41 rfl w1.heap.size 5 i0 1 Try.underlying41 hi hz1 w1.heap.size _ (2 * s.size + 2) _ rfl (hown.alloc _) ⟨wr.heap.size, 0, none⟩ 1 1 [.int .u8 (digitI K ((s[i]'hlt).toNat : Int))] rfl rfl (one_cell _ _ _) (one_one _ _) (by omega) ?_; intro w3 hown3 hgrow3))
          go_roundw
          case rel => exact ⟨i + 1, by omega, by go_num, len_step1 HST.out, own_step1 hown3 HST.out, (hB.alloc hsz _).grown hgrow3 (by simp; omega) (fun k hk => by cases hk; exact Nat.le_refl _)⟩
          case measure => simp [intOf]; omega
      · have hse : sep i = false := by rw [HSEP.out]; simpa using hmark
        have hst : stepL K sep (dOf s) i = [digitI K ((s[i]'hlt).toNat : Int)] := by unfold stepL sepB; rw [hse, hdi]; simp
        rw [hst] at hstep
        have HST : Hid (litL K U sep (dOf s) (i + 1) = litL K U sep (dOf s) i ++ [digitI K ((s[i]'hlt).toNat : Int)]) := hstep
        clear hstep hst hse hdi
        by_cases hin : i < n
        · obtain ⟨g, hg1, hg2, hg3⟩ := hA i hin
          subst hg1
          have hBi : B i = false := by simpa [hin] using hmark
          have hc : wr.cell? ⟨g, i, none⟩ = some (.bool false) := by rw [← hBi]; exact (hB.cell (by exact hg2)).trans hg3
          clear hmark hBi hg3
          go_wp2_with (first
            | (go_at_call 25; refine (digitOf_any _ _ (by omega) (by omega) _).mono ?_; rintro e w' ⟨rfl, hw'⟩; obtain rfl := hw'.symm)
            | (at_builtin; refine wpList_append_fits _ rfl (.tmp 74) (.tmp 80) 41 rfl w1.heap.size 5 i0 1 Try.underlying41 hi hz1 w1.heap.size _ (2 * s.size + 2) _ rfl (hown.alloc _) ⟨wr.heap.size, 0, none⟩ 1 1 [.int .u8 (digitI K ((s[i]'hlt).toNat : Int))] rfl rfl (one_cell _ _ _) (one_one _ _) (by omega) ?_; intro w3 hown3 hgrow3))
          go_roundw
          case rel => exact ⟨i + 1, by omega, by go_num, len_step1 HST.out, own_step1 hown3 HST.out, (hB.alloc hsz _).grown hgrow3 (by simp; omega) (fun k hk => by cases hk; exact Nat.le_refl _)⟩
          case measure => simp [intOf]; omega
        · clear hmark
          go_wp2_with (first
            | (go_at_call 25; refine (digitOf_any _ _ (by omega) (by omega) _).mono ?_; rintro e w' ⟨rfl, hw'⟩; obtain rfl := hw'.symm)
            | (at_builtin; refine wpList_append_fits _ rfl (.tmp 74) (.tmp 80) 41 rfl w1.heap.size 5 i0 1 Try.underlying41 hi hz1 w1.heap.size _ (2 * s.size + 2) _ rfl (hown.alloc _) ⟨wr.heap.size, 0, none⟩ 1 1 [.int .u8 (digitI K ((s[i]'hlt).toNat : Int))] rfl rfl (one_cell _ _ _) (one_one _ _) (by omega) ?_; intro w3 hown3 hgrow3))
          go_roundw
          case rel => exact ⟨i + 1, by omega, by go_num, len_step1 HST.out, own_step1 hown3 HST.out, (hB.alloc hsz _).grown hgrow3 (by simp; omega) (fun k hk => by cases hk; exact Nat.le_refl _)⟩
          case measure => simp [intOf]; omega
    · have hie : i = s.size := by omega
      subst hie
      obtain ⟨hp, hx, hh, hf⟩ := lit_ok K (by omega) (by omega) U sep (dOf s) s.size
      have kc := conv_own hown
      have hbd := bd_all K U sep (dOf s) s.size
      have hz18 := zzInv_any (strOfNums (litL K U sep (dOf s) s.size)) wr (inv_any _ (fun i => (litL K U sep (dOf s) s.size).getD i 0) (fun j hj => bytes_at _ hbd j hj) (by rw [size_lit]; omega) hp hx (by rw [size_lit]; exact hh) (by rw [size_lit]; exact hf) wr)
      clear hh hf hbd hown
      go_wp2_with (go_at_call 18; refine hz18.mono ?_; rintro e w9 ⟨rfl, hb9⟩)
      go_ret
      exact ⟨rfl, hb1.trans (((hB.mono hb1.size).trans (hb9.mono (Nat.le_trans hb1.size hsz))))⟩

set_option maxHeartbeats 2000000 in
set_option maxRecDepth 100000 in
theorem law_pos (base K : Int) (U : Bool) (s : ByteArray) (a : Option Addr) (n c : Nat) (B : Nat → Bool) (w : World) (b0 : 0 ≤ base) (b1 : base ≤ 255) (hs : s.size ≤ 65536) (hn : n ≤ 65536) (hK : base % 4 = K) (k0 : 1 ≤ K) (k1 : K ≤ 3) (hU : (base / 4 % 2 == 1) = U) (hM : MarksIn a n c B w) :
    Calls Try.prog 8 #[.int .u8 base, .string s, .slice a n c] w fun e w' => e = .returned (.bool true) ∧ Below w.heap.size w w' := by
  have h22 : Calls Try.prog 22 #[.int .u8 base, .string s, .slice a n c] w fun e w' => e = .returned (.bool true) ∧ w' = w := by
    have h := zzBytes_any (.int .u8 base) s a n c (by omega) (by omega) w
    have hz : decide (s.size ≤ 1048576 ∧ n ≤ 1048576 ∧ s.size + n ≤ 1048576) = true := decide_eq_true (by omega)
    rw [hz] at h
    exact h
  have h23 := clone_any a n c B w hn hM
  obtain ⟨i0, hi, hz0, hz1, hz2⟩ := info_parts Try.info5
  go_enter Try.func8, Try.ntmps8
  go_wp2_with fail
  refine h22.mono ?_
  rintro e w' ⟨rfl, rfl⟩
  clear h22
  go_wp2_with fail
  refine h23.mono ?_
  rintro e w1 ⟨ao, rfl, hA, hb1⟩
  clear h23 hM
  go_wp2_with (at_make; refine wpList_make_own _ rfl _ _ 41 rfl w1.heap.size 5 i0 (.int .u8 0) 1 Try.underlying41 hi hz0 hz1 _ _ _ (2 * s.size + 2) rfl rfl (by omega) ?b2 ?b3 (Nat.le_refl _) ?_)
  case b2 => rw [hz2]; omega
  case b3 => unfold maxLen; omega
  intro w2 hown2 hgrow2
  have hB2 : Below w1.heap.size w1 w2 := (Below.refl _ _).grown hgrow2 (Nat.le_refl _) (fun k h => by cases h)
  clear hgrow2
  go_wp2_with (first
    | (go_at_call 24; refine (prefixLetter_any _ _ _).mono ?_; rintro e w' ⟨rfl, hw'⟩; obtain rfl := hw'.symm)
    | (at_builtin; refine wpList_append_fits _ rfl (.tmp 38) (.tmp 39) 41 rfl w1.heap.size 5 i0 1 Try.underlying41 hi hz1 w1.heap.size _ (2 * s.size + 2) _ rfl (hown2.alloc _) ⟨w2.heap.size, 0, none⟩ 1 1 [.int .u8 48] rfl rfl (one_cell _ _ _) (one_one _ _) (by omega) ?_; intro w3 hown3 hgrow3)
    | (at_builtin; refine wpList_append_fits _ rfl (.tmp 41) (.tmp 45) 41 rfl w1.heap.size 5 i0 1 Try.underlying41 hi hz1 w1.heap.size _ (2 * s.size + 2) _ rfl (hown3.alloc _) ⟨w3.heap.size, 0, none⟩ 1 1 [.int .u8 (letterOf K U)] rfl rfl (one_cell _ _ _) (one_one _ _) (by omega) ?_; intro w4 hownS hgrow4))
  have hB3 : Below w1.heap.size w1 w3 := (hB2.alloc hB2.size _).grown hgrow3 (by have := hB2.size; simp; omega) (fun k hk => by cases hk; exact Nat.le_refl _)
  have hBS : Below w1.heap.size w1 w4 := (hB3.alloc hB3.size _).grown hgrow4 (by have := hB3.size; simp; omega) (fun k hk => by cases hk; exact Nat.le_refl _)
  clear hown2 hown3 hgrow3 hgrow4 hB2 hB3
  obtain ⟨sep, hsep⟩ : ∃ sep : Nat → Bool, sep = fun i => decide (i < n) && B i := ⟨_, rfl⟩
  have HSEP : Hid (sep = fun i => decide (i < n) && B i) := hsep
  clear hsep
  have hownS := start_pos K U sep (dOf s) (by omega) hownS
  go_loopw [9, 10] (fun bv iv wr => ∃ i : Nat, i ≤ s.size ∧ iv = .int .i64 i ∧ bv = .slice (some ⟨w1.heap.size, 0, none⟩) (litL K U sep (dOf s) i).length (2 * s.size + 2) ∧ wr.ownsRow w1.heap.size 5 1 (.slice (some ⟨w1.heap.size, 0, none⟩) (litL K U sep (dOf s) i).length (2 * s.size + 2)) (litL K U sep (dOf s) i).length ((litL K U sep (dOf s) i).map (Value.int .u8)) ∧ Below w1.heap.size w1 wr)
    (fun _ iv _ => s.size - (intOf iv).toNat)
  case atStart => exact ⟨0, Nat.zero_le _, rfl, (start_pos_len K U sep (dOf s) (by omega) _ _), hownS, hBS⟩
  case round =>
    obtain ⟨i, hi', rfl, rfl, hown, hB⟩ := hrel
    have hlen := len_all K U sep (dOf s) i
    have hsz := hB.size
    by_cases hlt : i < s.size
    · have hd0 := (s[i]'hlt).toNat_lt
      have hdi := dOf_at s i hlt
      have hstep : litL K U sep (dOf s) (i + 1) = litL K U sep (dOf s) i ++ stepL K sep (dOf s) i := rfl
      by_cases hmark : (decide (i < n) && B i) = true
      · rw [Bool.and_eq_true, decide_eq_true_eq] at hmark
        obtain ⟨hin, hBi⟩ := hmark
        obtain ⟨g, hg1, hg2, hg3⟩ := hA i hin
        subst hg1
        have hc : wr.cell? ⟨g, i, none⟩ = some (.bool true) := by rw [← hBi]; exact (hB.cell (by exact hg2)).trans hg3
        have hse : sep i = true := by rw [HSEP.out]; simp [hin, hBi]
        by_cases h0 : 0 < i
        · have hst : stepL K sep (dOf s) i = [95, digitI K ((s[i]'hlt).toNat : Int)] := by unfold stepL sepB; rw [hse, hdi]; simp [h0]
          rw [hst] at hstep
          have HST : Hid (litL K U sep (dOf s) (i + 1) = litL K U sep (dOf s) i ++ [95, digitI K ((s[i]'hlt).toNat : Int)]) := hstep
          clear hstep hst hse hdi hBi hg3
          go_wp2_with (first
            | (go_at_call 25; refine (digitOf_any _ _ (by omega) (by omega) _).mono ?_; rintro e w' ⟨rfl, hw'⟩; obtain rfl := hw'.symm)
            | (at_builtin; refine wpList_append_fits _ rfl (.tmp 71) (.tmp 72) 41 rfl w1.heap.size 5 i0 1 Try.underlying41 hi hz1 w1.heap.size _ (2 * s.size + 2) _ rfl (hown.alloc _) ⟨wr.heap.size, 0, none⟩ 1 1 [.int .u8 95] rfl rfl (one_cell _ _ _) (one_one _ _) (by omega) ?_; intro w3 hown3 hgrow3)
            | (at_builtin; refine wpList_append_fits _ rfl (.tmp 74) (.tmp 80) 41 rfl w1.heap.size 5 i0 1 Try.underlying41 hi hz1 w1.heap.size _ (2 * s.size + 2) _ rfl (hown3.alloc _) ⟨w3.heap.size, 0, none⟩ 1 1 [.int .u8 (digitI K ((s[i]'hlt).toNat : Int))] rfl rfl (one_cell _ _ _) (one_one _ _) (by omega) ?_; intro w4 hown4 hgrow4))
          have hB3 : Below w1.heap.size w1 w3 := (hB.alloc hsz _).grown hgrow3 (by simp; omega) (fun k hk => by cases hk; exact Nat.le_refl _)
          go_roundw
          case rel => exact ⟨i + 1, by omega, by go_num, len_step2 HST.out, own_step2 hown4 HST.out, (hB3.alloc hB3.size _).grown hgrow4 (by have := hB3.size; simp; omega) (fun k hk => by cases hk; exact Nat.le_refl _)⟩
          case measure => simp [intOf]; omega
        · have hst : stepL K sep (dOf s) i = [95, digitI K ((s[i]'hlt).toNat : Int)] := by unfold stepL sepB; rw [hse, hdi]; simp [show 0 < K from by omega]
          rw [hst] at hstep
          have HST : Hid (litL K U sep (dOf s) (i + 1) = litL K U sep (dOf s) i ++ [95, digitI K ((s[i]'hlt).toNat : Int)]) := hstep
          clear hstep hst hse hdi hBi hg3
          go_wp2_with (first
            | (go_at_call 25; refine (digitOf_any _ _ (by omega) (by omega) _).mono ?_; rintro e w' ⟨rfl, hw'⟩; obtain rfl := hw'.symm)
            | (at_builtin; refine wpList_append_fits _ rfl (.tmp 71) (.tmp 72) 41 rfl w1.heap.size 5 i0 1 Try.underlying41 hi hz1 w1.heap.size _ (2 * s.size + 2) _ rfl (hown.alloc _) ⟨wr.heap.size, 0, none⟩ 1 1 [.int .u8 95] rfl rfl (one_cell _ _ _) (one_one _ _) (by omega) ?_; intro w3 hown3 hgrow3)
            | (at_builtin; refine wpList_append_fits _ rfl (.tmp 74) (.tmp 80) 41 rfl w1.heap.size 5 i0 1 Try.underlying41 hi hz1 w1.heap.size _ (2 * s.size + 2) _ rfl (hown3.alloc _) ⟨w3.heap.size, 0, none⟩ 1 1 [.int .u8 (digitI K ((s[i]'hlt).toNat : Int))] rfl rfl (one_cell _ _ _) (one_one _ _) (by omega) ?_; intro w4 hown4 hgrow4))
          have hB3 : Below w1.heap.size w1 w3 := (hB.alloc hsz _).grown hgrow3 (by simp; omega) (fun k hk => by cases hk; exact Nat.le_refl _)
          go_roundw
          case rel => exact ⟨i + 1, by omega, by go_num, len_step2 HST.out, own_step2 hown4 HST.out, (hB3.alloc hB3.size _).grown hgrow4 (by have := hB3.size; simp; omega) (fun k hk => by cases hk; exact Nat.le_refl _)⟩
          case measure => simp [intOf]; omega
      · have hse : sep i = false := by rw [HSEP.out]; simpa using hmark
        have hst : stepL K sep (dOf s) i = [digitI K ((s[i]'hlt).toNat : Int)] := by unfold stepL sepB; rw [hse, hdi]; simp
        rw [hst] at hstep
        have HST : Hid (litL K U sep (dOf s) (i + 1) = litL K U sep (dOf s) i ++ [digitI K ((s[i]'hlt).toNat : Int)]) := hstep
        clear hstep hst hse hdi
        by_cases hin : i < n
        · obtain ⟨g, hg1, hg2, hg3⟩ := hA i hin
          subst hg1
          have hBi : B i = false := by simpa [hin] using hmark
          have hc : wr.cell? ⟨g, i, none⟩ = some (.bool false) := by rw [← hBi]; exact (hB.cell (by exact hg2)).trans hg3
          clear hmark hBi hg3
          go_wp2_with (first
            | (go_at_call 25; refine (digitOf_any _ _ (by omega) (by omega) _).mono ?_; rintro e w' ⟨rfl, hw'⟩; obtain rfl := hw'.symm)
            | (at_builtin; refine wpList_append_fits _ rfl (.tmp 74) (.tmp 80) 41 rfl w1.heap.size 5 i0 1 Try.underlying41 hi hz1 w1.heap.size _ (2 * s.size + 2) _ rfl (hown.alloc _) ⟨wr.heap.size, 0, none⟩ 1 1 [.int .u8 (digitI K ((s[i]'hlt).toNat : Int))] rfl rfl (one_cell _ _ _) (one_one _ _) (by omega) ?_; intro w3 hown3 hgrow3))
          go_roundw
          case rel => exact ⟨i + 1, by omega, by go_num, len_step1 HST.out, own_step1 hown3 HST.out, (hB.alloc hsz _).grown hgrow3 (by simp; omega) (fun k hk => by cases hk; exact Nat.le_refl _)⟩
          case measure => simp [intOf]; omega
        · clear hmark
          go_wp2_with (first
            | (go_at_call 25; refine (digitOf_any _ _ (by omega) (by omega) _).mono ?_; rintro e w' ⟨rfl, hw'⟩; obtain rfl := hw'.symm)
            | (at_builtin; refine wpList_append_fits _ rfl (.tmp 74) (.tmp 80) 41 rfl w1.heap.size 5 i0 1 Try.underlying41 hi hz1 w1.heap.size _ (2 * s.size + 2) _ rfl (hown.alloc _) ⟨wr.heap.size, 0, none⟩ 1 1 [.int .u8 (digitI K ((s[i]'hlt).toNat : Int))] rfl rfl (one_cell _ _ _) (one_one _ _) (by omega) ?_; intro w3 hown3 hgrow3))
          go_roundw
          case rel => exact ⟨i + 1, by omega, by go_num, len_step1 HST.out, own_step1 hown3 HST.out, (hB.alloc hsz _).grown hgrow3 (by simp; omega) (fun k hk => by cases hk; exact Nat.le_refl _)⟩
          case measure => simp [intOf]; omega
    · have hie : i = s.size := by omega
      subst hie
      obtain ⟨hp, hx, hh, hf⟩ := lit_ok K (by omega) (by omega) U sep (dOf s) s.size
      have kc := conv_own hown
      have hbd := bd_all K U sep (dOf s) s.size
      have hz18 := zzInv_any (strOfNums (litL K U sep (dOf s) s.size)) wr (inv_any _ (fun i => (litL K U sep (dOf s) s.size).getD i 0) (fun j hj => bytes_at _ hbd j hj) (by rw [size_lit]; omega) hp hx (by rw [size_lit]; exact hh) (by rw [size_lit]; exact hf) wr)
      clear hh hf hbd hown
      go_wp2_with (go_at_call 18; refine hz18.mono ?_; rintro e w9 ⟨rfl, hb9⟩)
      go_ret
      exact ⟨rfl, hb1.trans (((hB.mono hb1.size).trans (hb9.mono (Nat.le_trans hb1.size hsz))))⟩

end Go.Proofs.Qxb6000773a
