import Derived.Test.Qxb6001402aB3
import Derived.Laws.OwnMore
import Derived.OwnWalk
import Derived.Deep.CutRange
namespace Go.Proofs.Qxb6001402a
open Go.RowKit

/-- The length guard, laid by program. -/
theorem zzBytes18 (s : ByteArray) (v1 v2 v3 : Value) (w : World) :
    Calls Try.prog 18 #[.string s, v1, v2, v3] w fun e w' => e = .returned (.bool (decide (s.size ≤ 1048576))) ∧ w' = w := by
  by_cases h : s.size ≤ 1048576
  · go_enter Try.func18, Try.ntmps18
    go_wp2
    go_ret
    exact ⟨ret_bool (by simp [h]), rfl⟩
  · go_enter Try.func18, Try.ntmps18
    go_wp2
    go_ret
    exact ⟨ret_bool (by simp [h]), rfl⟩

theorem one_cell (w : World) (u : Value) (t : TypeId) : ∀ j v, [u][j]? = some v → (w.alloc (.cells #[u] t)).cell? ((⟨w.heap.size, 0, none⟩ : Addr).add j) = some v := by
  intro j v hj
  match j, hj with
  | 0, hj => simp at hj; subst hj; simp [Addr.add]
theorem two_cell (w : World) (u u' : Value) (t : TypeId) : ∀ j v, [u, u'][j]? = some v → (w.alloc (.cells #[u, u'] t)).cell? ((⟨w.heap.size, 0, none⟩ : Addr).add j) = some v := by
  intro j v hj
  match j, hj with
  | 0, hj => simp at hj; subst hj; simp [Addr.add]
  | 1, hj => simp at hj; subst hj; simp [Addr.add]
theorem nums_one (k : IntKind) (L : List Int) : ∀ u ∈ L.map (Value.int k), u.oneCell' = true := by
  intro u hu
  simp at hu
  obtain ⟨x, _, rfl⟩ := hu
  rfl

theorem own_step {w : World} {b cap m : Nat} {A : Option Addr} {L L' X : List Int} (h : w.ownsRow b 5 1 (.slice A (L.length + m) cap) (L.length + m) (L.map (Value.int .u8) ++ X.map (Value.int .u8))) (hm : X.length = m) (e : L' = L ++ X) :
    w.ownsRow b 5 1 (.slice A L'.length cap) L'.length (L'.map (Value.int .u8)) := by
  subst e
  subst hm
  simpa using h
theorem len_step {A : Option Addr} {cap m : Nat} {L L' X : List Int} (hm : X.length = m) (e : L' = L ++ X) : Value.slice A (L.length + m) cap = .slice A L'.length cap := by subst e; subst hm; simp

theorem conv_own {w : World} {b G cap : Nat} {L : List Int} (h : w.ownsRow b 5 1 (.slice (some ⟨G, 0, none⟩) L.length cap) L.length (L.map (Value.int .u8))) :
    (convert 30 9 (.slice (some ⟨G, 0, none⟩) L.length cap)).run Try.prog w = .ok (.string (strOfNums L)) w :=
  run_convert_bytes_arg w 30 5 Try.underlying30 Try.underlying5 G 0 L.length cap L rfl (fun j hj => by
    have := h.cellAt j (by omega)
    rw [Nat.zero_add, this]
    simp [List.getD, hj]) 9 Try.underlying9

set_option maxRecDepth 100000 in
theorem law8_long (s : ByteArray) (q : Int) (bs aq : Bool) (w : World) (hs : 524288 ≤ s.size) :
    Calls Try.prog 8 #[.string s, .int .u8 q, .bool bs, .bool aq] w fun e w' => e = .returned (.bool true) ∧ Below w.heap.size w w' := by
  have h18 := zzBytes18 s (.int .u8 q) (.bool bs) (.bool aq) w
  have hsI : (524288 : Int) ≤ (s.size : Int) := by omega
  clear hs
  cases hz : decide (s.size ≤ 1048576) with
  | false =>
    rw [hz] at h18
    clear hz
    go_enter Try.func8, Try.ntmps8
    go_wp2_with (go_at_call 18; refine h18.mono ?_; rintro e w' ⟨rfl, rfl⟩)
    go_ret
    exact ⟨rfl, Below.refl _ _⟩
  | true =>
    rw [hz] at h18
    clear hz
    go_enter Try.func8, Try.ntmps8
    go_wp2_with (go_at_call 18; refine h18.mono ?_; rintro e w' ⟨rfl, rfl⟩)
    go_ret
    exact ⟨rfl, Below.refl _ _⟩

set_option maxRecDepth 100000 in
theorem law8_other (s : ByteArray) (q : Int) (bs aq : Bool) (w : World) (hs : s.size < 524288) (h1 : q ≠ 39) (h2 : q ≠ 34) (h3 : q ≠ 96) :
    Calls Try.prog 8 #[.string s, .int .u8 q, .bool bs, .bool aq] w fun e w' => e = .returned (.bool true) ∧ Below w.heap.size w w' := by
  have h18 := zzBytes18 s (.int .u8 q) (.bool bs) (.bool aq) w
  rw [decide_eq_true (by omega)] at h18
  have hsI : decide ((524288 : Int) ≤ (s.size : Int)) = false := decide_eq_false (by omega)
  clear hs
  have e1 : (q == 39) = false := beq_eq_false_iff_ne.2 h1
  have e2 : (q == 34) = false := beq_eq_false_iff_ne.2 h2
  have e3 : (q == 96) = false := beq_eq_false_iff_ne.2 h3
  have e4 : (q != 39) = true := by simp [h1]
  have e5 : (q != 34) = true := by simp [h2]
  have e6 : (q != 96) = true := by simp [h3]
  go_enter Try.func8, Try.ntmps8
  go_wp2_with (go_at_call 18; refine h18.mono ?_; rintro e w' ⟨rfl, rfl⟩)
  go_ret
  exact ⟨rfl, Below.refl _ _⟩

set_option maxHeartbeats 2000000 in
set_option maxRecDepth 100000 in
theorem law8_main (s : ByteArray) (q : Int) (bs aq E : Bool) (d : Nat → Int) (T : ByteArray) (w : World) (hs : s.size < 524288) (hd : ∀ (i : Nat) (h : i < s.size), ((s[i]'h).toNat : Int) = d i)
    (hq : q = 39 ∨ q = 34 ∨ q = 96) (hE : (q = 39 → E = bs) ∧ (q = 34 → E = (bs && !aq)) ∧ (q = 96 → E = false)) (hT : strOfNums (fullL q E d s.size) = T)
    (c16a : ∀ W, Below w.heap.size w W → Calls Try.prog 16 #[.string T, .int .i64 0, .bool bs, .bool aq, .bool false, .bool false] W fun e w' => e = .returned (.tuple #[.int .i64 2, .string T, .bool E, .int .i64 T.size, .bool false, .bool false]) ∧ Below W.heap.size W w')
    (c19 : ∀ W, Calls Try.prog 19 #[.string T, .bool E] W fun e w' => e = .returned (.string s) ∧ Below W.heap.size W w')
    (c16b : ∀ W, Below w.heap.size w W → Calls Try.prog 16 #[.string T, .int .i64 T.size, .bool bs, .bool aq, .bool false, .bool false] W fun e w' => ∃ (tok : ByteArray) (esc : Bool) (p : Nat) (c : Bool), e = .returned (.tuple #[.int .i64 0, .string tok, .bool esc, .int .i64 p, .bool c, .bool true]) ∧ Below W.heap.size W w') :
    Calls Try.prog 8 #[.string s, .int .u8 q, .bool bs, .bool aq] w fun e w' => e = .returned (.bool true) ∧ Below w.heap.size w w' := by
  have h18 := zzBytes18 s (.int .u8 q) (.bool bs) (.bool aq) w
  rw [decide_eq_true (by omega)] at h18
  obtain ⟨i0, hi, hz0, hz1, hz2⟩ := info_parts Try.info5
  have hsI : decide ((524288 : Int) ≤ (s.size : Int)) = false := decide_eq_false (by omega)
  have HS : Hid (s.size < 524288) := hs
  clear hs
  have HD : Hid (∀ (i : Nat) (h : i < s.size), ((s[i]'h).toNat : Int) = d i) := hd
  clear hd
  have HE : Hid ((q = 39 → E = bs) ∧ (q = 34 → E = (bs && !aq)) ∧ (q = 96 → E = false)) := hE
  have HQ : Hid (q = 39 ∨ q = 34 ∨ q = 96) := hq
  have HT : Hid (strOfNums (fullL q E d s.size) = T) := hT
  have HA : Hid _ := c16a
  have HC : Hid _ := c19
  have HB : Hid _ := c16b
  clear hE hq hT c16a c19 c16b
  go_enter Try.func8, Try.ntmps8
  go_upto_region 5 with (go_at_call 18; refine h18.mono ?_; rintro e w' ⟨rfl, hw'⟩; obtain rfl := hw'.symm; clear h18)
  go_cut [44] from 35 to 44 (fun b wx => b = .bool false ∧ wx = w)
  case first =>
    rcases HQ.out with h | h | h
    all_goals
      subst h
      go_wp2_with fail
      go_meet
      exact ⟨rfl, rfl⟩
  case rest =>
    obtain ⟨rfl, hwx⟩ := hcut
    obtain rfl := hwx.symm
    go_upto_region 7 with fail
    go_cut [9] from 45 to 60 (fun b wx => b = .bool E ∧ wx = w)
    case first =>
      rcases HQ.out with h | h | h
      · subst h
        have hE := HE.out.1 rfl
        cases bs
        all_goals
          subst hE
          go_wp2_with fail
          go_meet
          exact ⟨rfl, rfl⟩
      · subst h
        have hE := HE.out.2.1 rfl
        cases bs
        · simp only [Bool.false_and] at hE
          subst hE
          go_wp2_with fail
          go_meet
          exact ⟨rfl, rfl⟩
        · cases aq
          all_goals
            simp only [Bool.true_and, Bool.not_false, Bool.not_true] at hE
            subst hE
            go_wp2_with fail
            go_meet
            exact ⟨rfl, rfl⟩
      · subst h
        have hE := HE.out.2.2 rfl
        subst hE
        go_wp2_with fail
        go_meet
        exact ⟨rfl, rfl⟩
    case rest =>
      obtain ⟨rfl, hwx⟩ := hcut
      obtain rfl := hwx.symm
      have hs2 : s.size ≤ 1048576 := by have := HS.out; omega
      go_wp2_with (at_make; refine wpList_make_own _ rfl _ _ 30 rfl w.heap.size 5 i0 (.int .u8 0) 1 Try.underlying30 hi hz0 hz1 _ _ _ (2 * s.size + 2) rfl rfl (by omega) ?b2 ?b3 (Nat.le_refl _) ?_)
      case b2 => omega
      case b3 => unfold maxLen; omega
      intro w2 hown2 hgrow2
      have hB2 : Below w.heap.size w w2 := (Below.refl _ _).grown hgrow2 (Nat.le_refl _) (fun k h => by cases h)
      clear hgrow2
      go_wp2_with (at_builtin; refine wpList_append_fits _ rfl (.tmp 66) (.tmp 68) 30 rfl w.heap.size 5 i0 1 Try.underlying30 hi hz1 w.heap.size _ (2 * s.size + 2) _ rfl (hown2.alloc _) ⟨w2.heap.size, 0, none⟩ 1 1 [.int .u8 q] rfl rfl (one_cell _ _ _) (nums_one .u8 [q]) (by omega) ?_; intro w3 hown3 hgrow3)
      have hBS : Below w.heap.size w w3 := (hB2.alloc hB2.size _).grown hgrow3 (by have := hB2.size; simp; omega) (fun k hk => by cases hk; exact Nat.le_refl _)
      have hownS : w3.ownsRow w.heap.size 5 1 (.slice (some ⟨w.heap.size, 0, none⟩) (qL q E d 0).length (2 * s.size + 2)) (qL q E d 0).length ((qL q E d 0).map (Value.int .u8)) := hown3
      clear hown2 hown3 hgrow3 hB2
      go_loopw [10, 11] (fun bv iv wr => ∃ i : Nat, i ≤ s.size ∧ iv = .int .i64 i ∧ bv = .slice (some ⟨w.heap.size, 0, none⟩) (qL q E d i).length (2 * s.size + 2) ∧ wr.ownsRow w.heap.size 5 1 (.slice (some ⟨w.heap.size, 0, none⟩) (qL q E d i).length (2 * s.size + 2)) (qL q E d i).length ((qL q E d i).map (Value.int .u8)) ∧ Below w.heap.size w wr)
        (fun _ iv _ => s.size - (intOf iv).toNat)
      case atStart => exact ⟨0, Nat.zero_le _, rfl, rfl, hownS, hBS⟩
      case round =>
        obtain ⟨i, hi', rfl, rfl, hown, hB⟩ := hrel
        have hlen := qL_len q E d i
        have hsz := hB.size
        by_cases hlt : i < s.size
        · have hdi := HD.out i hlt
          have hd0 := (s[i]'hlt).toNat_lt
          by_cases a : d i = q
          · rw [a] at hdi
            have hst : qL q E d (i + 1) = qL q E d i ++ [q, q] := by simp [qL, quoteB, a]
            have HST : Hid (qL q E d (i + 1) = qL q E d i ++ [q, q]) := hst
            clear hst a
            go_wp2_with (at_builtin; refine wpList_append_fits _ rfl (.tmp 82) (.tmp 85) 30 rfl w.heap.size 5 i0 1 Try.underlying30 hi hz1 w.heap.size _ (2 * s.size + 2) _ rfl (hown.alloc _) ⟨wr.heap.size, 0, none⟩ 2 2 [.int .u8 q, .int .u8 q] rfl rfl (two_cell _ _ _ _) (nums_one .u8 [q, q]) (by omega) ?_; intro w3 hown3 hgrow3)
            go_roundw
            case rel => exact ⟨i + 1, by omega, by go_num, len_step rfl HST.out, own_step (X := [q, q]) hown3 rfl HST.out, (hB.alloc hsz _).grown hgrow3 (by simp; omega) (fun k hk => by cases hk; exact Nat.le_refl _)⟩
            case measure => simp [intOf]; omega
          · have e1 : (d i == q) = false := beq_eq_false_iff_ne.2 a
            by_cases b : d i = 92 ∧ E = true
            · obtain ⟨b1, rfl⟩ := b
              rw [b1] at hdi e1
              have hst : qL q true d (i + 1) = qL q true d i ++ [92, 92] := by rw [b1] at a; simp [qL, quoteB, a, b1]
              have HST : Hid (qL q true d (i + 1) = qL q true d i ++ [92, 92]) := hst
              clear hst a b1
              go_wp2_with (at_builtin; refine wpList_append_fits _ rfl (.tmp 92) (.tmp 93) 30 rfl w.heap.size 5 i0 1 Try.underlying30 hi hz1 w.heap.size _ (2 * s.size + 2) _ rfl (hown.alloc _) ⟨wr.heap.size, 0, none⟩ 2 2 [.int .u8 92, .int .u8 92] rfl rfl (two_cell _ _ _ _) (nums_one .u8 [92, 92]) (by omega) ?_; intro w3 hown3 hgrow3)
              go_roundw
              case rel => exact ⟨i + 1, by omega, by go_num, len_step rfl HST.out, own_step (X := [92, 92]) hown3 rfl HST.out, (hB.alloc hsz _).grown hgrow3 (by simp; omega) (fun k hk => by cases hk; exact Nat.le_refl _)⟩
              case measure => simp [intOf]; omega
            · have hst : qL q E d (i + 1) = qL q E d i ++ [d i] := by simp [qL, quoteB, a, b]
              have HST : Hid (qL q E d (i + 1) = qL q E d i ++ [d i]) := hst
              clear hst a
              cases h92 : (d i == 92) with
              | true =>
                have hEf : E = false := by
                  cases hE' : E
                  · rfl
                  · exact (b ⟨by simpa using h92, hE'⟩).elim
                subst hEf
                clear b
                go_wp2_with (at_builtin; refine wpList_append_fits _ rfl (.tmp 95) (.tmp 97) 30 rfl w.heap.size 5 i0 1 Try.underlying30 hi hz1 w.heap.size _ (2 * s.size + 2) _ rfl (hown.alloc _) ⟨wr.heap.size, 0, none⟩ 1 1 [.int .u8 (d i)] rfl rfl (one_cell _ _ _) (nums_one .u8 [d i]) (by omega) ?_; intro w3 hown3 hgrow3)
                go_roundw
                case rel => exact ⟨i + 1, by omega, by go_num, len_step rfl HST.out, own_step (X := [d i]) hown3 rfl HST.out, (hB.alloc hsz _).grown hgrow3 (by simp; omega) (fun k hk => by cases hk; exact Nat.le_refl _)⟩
                case measure => simp [intOf]; omega
              | false =>
                clear b
                go_wp2_with (at_builtin; refine wpList_append_fits _ rfl (.tmp 95) (.tmp 97) 30 rfl w.heap.size 5 i0 1 Try.underlying30 hi hz1 w.heap.size _ (2 * s.size + 2) _ rfl (hown.alloc _) ⟨wr.heap.size, 0, none⟩ 1 1 [.int .u8 (d i)] rfl rfl (one_cell _ _ _) (nums_one .u8 [d i]) (by omega) ?_; intro w3 hown3 hgrow3)
                go_roundw
                case rel => exact ⟨i + 1, by omega, by go_num, len_step rfl HST.out, own_step (X := [d i]) hown3 rfl HST.out, (hB.alloc hsz _).grown hgrow3 (by simp; omega) (fun k hk => by cases hk; exact Nat.le_refl _)⟩
                case measure => simp [intOf]; omega
        · obtain rfl : i = s.size := by omega
          clear hownS hBS
          have e1 : (fullL q E d s.size).length = (qL q E d s.size).length + 1 := by simp [fullL]
          go_wp2_with (at_builtin; refine wpList_append_fits _ rfl (.tmp 99) (.tmp 101) 30 rfl w.heap.size 5 i0 1 Try.underlying30 hi hz1 w.heap.size _ (2 * s.size + 2) _ rfl (hown.alloc _) ⟨wr.heap.size, 0, none⟩ 1 1 [.int .u8 q] rfl rfl (one_cell _ _ _) (nums_one .u8 [q]) (by omega) ?_; intro w4 hown4 hgrow4)
          have hB4 : Below w.heap.size w w4 := (hB.alloc hsz _).grown hgrow4 (by simp; omega) (fun k hk => by cases hk; exact Nat.le_refl _)
          have kc := conv_own (own_step (X := [q]) (L' := fullL q E d s.size) hown4 rfl rfl)
          rw [e1, HT.out] at kc
          clear hown4 hgrow4 hown e1
          rw [kc]
          simp only [Result.andThen]
          rw [Oper.upon_value]
          go_wp2_with fail
          refine (HA.out w4 hB4).mono ?_
          rintro e w5 ⟨rfl, hb5⟩
          have hB5 : Below w.heap.size w w5 := hB4.trans (hb5.mono hB4.size)
          clear kc
          go_wp2_with fail
          refine (HC.out w5).mono ?_
          rintro e w6 ⟨rfl, hb6⟩
          have hB6 : Below w.heap.size w w6 := hB5.trans (hb6.mono hB5.size)
          go_wp2_with fail
          refine (HB.out w6 hB6).mono ?_
          rintro e w7 ⟨tok, esc, p, c, rfl, hb7⟩
          have hB7 : Below w.heap.size w w7 := hB6.trans (hb7.mono hB6.size)
          go_wp2
          go_ret
          exact ⟨rfl, hB7⟩

end Go.Proofs.Qxb6001402a
