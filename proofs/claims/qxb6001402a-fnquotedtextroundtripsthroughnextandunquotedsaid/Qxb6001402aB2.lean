import Derived.Test.Qxb6001402aB1
import Derived.Test.Qxb6001402aW4
import Derived.Lib.VarintMem
namespace Go.Proofs.Qxb6001402a
open Go.RowKit

/-- t: the text s (its bytes: d, n of them) in quotes q, each quote doubled, and each backslash doubled where it escapes. off i: where the byte i stands. -/
structure Quoted (t : ByteArray) (g : Nat → Int) (q : Int) (esc : Bool) (d : Nat → Int) (n : Nat) (off : Nat → Nat) : Prop where
  o0 : off 0 = 1
  on : t.size = off n + 1
  q0 : g 0 = q
  qn : g (off n) = q
  step : ∀ i, i < n → (d i = q ∧ g (off i) = q ∧ g (off i + 1) = q ∧ off (i + 1) = off i + 2) ∨
    (d i ≠ q ∧ d i = 92 ∧ esc = true ∧ g (off i) = 92 ∧ g (off i + 1) = 92 ∧ off (i + 1) = off i + 2) ∨
    (d i ≠ q ∧ (d i = 92 → esc = false) ∧ g (off i) = d i ∧ off (i + 1) = off i + 1)

theorem Quoted.up {t : ByteArray} {g : Nat → Int} {q : Int} {esc : Bool} {d : Nat → Int} {n : Nat} {off : Nat → Nat} (h : Quoted t g q esc d n off) : ∀ k i, i + k = n → off i + k ≤ off n
  | 0, i, e => by
    have : i = n := by omega
    subst this
    omega
  | k + 1, i, e => by
    have h1 := Quoted.up h k (i + 1) (by omega)
    rcases h.step i (by omega) with h2 | h2 | h2 <;> omega

/-- The quote's end is the text's. -/
theorem Quoted.ends {t : ByteArray} {g : Nat → Int} {q : Int} {esc : Bool} {d : Nat → Int} {n : Nat} {off : Nat → Nat} (h : Quoted t g q esc d n off) (hq : q ≠ 92) : ∀ k i f, i + k = n → off n < off i + f → qEnd g t.size q esc f (off i) = t.size
  | 0, i, f, e, hf => by
    have : i = n := by omega
    subst this
    obtain ⟨f, rfl⟩ : ∃ f', f = f' + 1 := ⟨f - 1, by omega⟩
    have h1 := h.on
    have h2 := h.qn
    have e1 : (g (off i) == 92) = false := beq_eq_false_iff_ne.2 (by omega)
    rw [qEnd, if_pos (by omega), e1, Bool.false_and, if_neg Bool.false_ne_true, if_pos (beq_iff_eq.2 h2), if_neg (by omega)]
    omega
  | k + 1, i, f, e, hf => by
    obtain ⟨f, rfl⟩ : ∃ f', f = f' + 1 := ⟨f - 1, by have := h.up (k + 1) i e; omega⟩
    have h1 := h.on
    have hu := h.up (k + 1) i e
    rcases h.step i (by omega) with ⟨a1, a2, a3, a4⟩ | ⟨a1, a2, a3, a4, a5, a6⟩ | ⟨a1, a2, a3, a4⟩
    · have hu2 := h.up k (i + 1) (by omega)
      have e1 : (g (off i) == 92) = false := beq_eq_false_iff_ne.2 (by omega)
      rw [qEnd, if_pos (by omega), e1, Bool.false_and, if_neg Bool.false_ne_true, if_pos (beq_iff_eq.2 a2), if_pos ⟨by omega, beq_iff_eq.2 a3⟩, ← a4]
      exact Quoted.ends h hq k (i + 1) f (by omega) (by omega)
    · have e1 : (g (off i) == 92 && esc) = true := by rw [a3, Bool.and_true]; exact beq_iff_eq.2 a4
      rw [qEnd, if_pos (by omega), if_pos e1, ← a6]
      exact Quoted.ends h hq k (i + 1) f (by omega) (by omega)
    · have e1 : (g (off i) == 92 && esc) = false := by
        by_cases h9 : d i = 92
        · rw [a2 h9, Bool.and_false]
        · rw [a3, beq_eq_false_iff_ne.2 h9, Bool.false_and]
      rw [qEnd, if_pos (by omega), e1, if_neg Bool.false_ne_true, if_neg (by rw [a3]; simpa using a1), ← a4]
      exact Quoted.ends h hq k (i + 1) f (by omega) (by omega)

set_option maxRecDepth 100000 in
theorem unescape_bs (w : World) : Calls Try.prog 33 #[.int .u8 92] w fun e w' => e = .returned (.string ⟨#[92]⟩) ∧ w' = w := by
  go_enter Try.func33, Try.ntmps33
  go_wp2
  go_ret
  exact ⟨rfl, rfl⟩

theorem byte_cell (s : ByteArray) (i : Nat) (h : i < s.size) (x : Int) (hx : ((s[i]'h).toNat : Int) = x) : Lib.byteCells (s.data.toList.take (i + 1)) = Lib.byteCells (s.data.toList.take i) ++ [.int .u8 x] := by
  subst hx
  have h' : i < s.data.toList.length := h
  rw [List.take_succ_eq_append_getElem h', Lib.byteCells_append]
  rfl

theorem bld_other {w : World} {B b : Nat} {bs : List Value} (h : Lib.BuilderAt 49 5 B b (.pointer (some ⟨b, 0, none⟩)) bs w) {bs' : List Value} (e : bs' = bs) : Lib.IsBuilder 49 5 B b bs' w := by
  subst e
  exact .inr h

set_option maxRecDepth 100000 in
set_option maxHeartbeats 4000000 in
theorem unquoted_any (t : ByteArray) (g : Nat → Int) (hg : ∀ (i : Nat) (h : i < t.size), ((t[i]'h).toNat : Int) = g i) (q : Int) (esc : Bool) (s : ByteArray) (d : Nat → Int) (hd : ∀ (i : Nat) (h : i < s.size), ((s[i]'h).toNat : Int) = d i) (off : Nat → Nat) (hQ : Quoted t g q esc d s.size off) (hq : q ≠ 92) (ht : t.size ≤ 1048576) (hs : s.size ≤ 1048576) (w : World) :
    Calls Try.prog 24 #[.agg #[.int .i64 2, .string t, .bool esc]] w fun e w' => e = .returned (.string s) ∧ Below w.heap.size w w' := by
  have hq92 : (q == 92) = false := beq_eq_false_iff_ne.2 hq
  have hup := hQ.up s.size 0 (by omega)
  have hon := hQ.on
  have ho0 := hQ.o0
  have ht0 : 0 < t.size := by omega
  have hg0 : ((t[0]'ht0).toNat : Int) = q := (hg 0 ht0).trans hQ.q0
  obtain ⟨R, hR⟩ : ∃ R, t.extract 1 t.size = R := ⟨_, rfl⟩
  have hRs : R.size = off s.size := by rw [← hR]; simp; omega
  have hRg : ∀ (i : Nat) (h : i < R.size), ((R[i]'h).toNat : Int) = g (i + 1) := fun i h => by
    have h' : 1 + i < t.size := by omega
    have e : (t.extract 1 t.size)[i]'(by rw [hR]; exact h) = t[1 + i]'h' := ByteArray.getElem_extract ..
    have e2 : R[i]'h = t[1 + i]'h' := by subst hR; exact e
    rw [e2, hg, Nat.add_comm]
  have HQ : Hid (Quoted t g q esc d s.size off) := hQ
  have HS : Hid (off 0 = 1 ∧ t.size = off s.size + 1 ∧ R.size = off s.size) := ⟨ho0, hon, hRs⟩
  have HG : Hid (∀ (i : Nat) (h : i < R.size), ((R[i]'h).toNat : Int) = g (i + 1)) := hRg
  have HD : Hid (∀ (i : Nat) (h : i < s.size), ((s[i]'h).toNat : Int) = d i) := hd
  have hRm : R.size ≤ 1048576 := by omega
  have hdb : ∀ i, i < s.size → 0 ≤ d i ∧ d i ≤ 255 := fun i h => by
    have h1 := (s[i]'h).toNat_lt
    have h2 := hd i h
    omega
  clear hQ hRg hg hup hd hRs hon ho0
  obtain ⟨T, hT⟩ : ∃ T, w.heap.size = T := ⟨_, rfl⟩
  have hfresh : Lib.IsBuilder 49 5 (T + 1) (T + 1) (Lib.byteCells (s.data.toList.take 0)) ((w.alloc (.cells #[.int .i64 2, .string t, .bool esc] 38)).alloc (.cells #[.pointer none, .slice none 0 0] 49)) := by
    have := Lib.fresh_isBuilder 49 5 (w.alloc (.cells #[.int .i64 2, .string t, .bool esc] 38))
    simpa [hT, Lib.byteCells] using this
  have hb0 : Below (T + 1) (w.alloc (.cells #[.int .i64 2, .string t, .bool esc] 38)) ((w.alloc (.cells #[.int .i64 2, .string t, .bool esc] 38)).alloc (.cells #[.pointer none, .slice none 0 0] 49)) := (Below.refl _ _).alloc (by simp [hT]) _
  have hTok : (w.alloc (.cells #[.int .i64 2, .string t, .bool esc] 38)).heap[T]? = some (.cells #[.int .i64 2, .string t, .bool esc] 38 (0, 0)) := by rw [← hT]; exact heap_alloc_new w _
  have hbw : Below T w (w.alloc (.cells #[.int .i64 2, .string t, .bool esc] 38)) := (Below.refl _ _).alloc (by omega) _
  have hsz0 : (w.alloc (.cells #[.int .i64 2, .string t, .bool esc] 38)).heap.size = T + 1 := by simp [hT]
  have HF : Hid (Lib.IsBuilder 49 5 (T + 1) (T + 1) (Lib.byteCells (s.data.toList.take 0)) ((w.alloc (.cells #[.int .i64 2, .string t, .bool esc] 38)).alloc (.cells #[.pointer none, .slice none 0 0] 49))) := hfresh
  have HT : Hid ((w.alloc (.cells #[.int .i64 2, .string t, .bool esc] 38)).heap[T]? = some (.cells #[.int .i64 2, .string t, .bool esc] 38 (0, 0))) := hTok
  have HZ : Hid ((w.alloc (.cells #[.int .i64 2, .string t, .bool esc] 38)).heap.size = T + 1) := hsz0
  clear hfresh hTok hsz0
  go_enter Try.func24, Try.ntmps24
  go_wp2
  go_loopw [6] (fun iv wr => ∃ i k : Nat, i ≤ s.size ∧ iv = .int .i64 k ∧ k + 1 = off i ∧ Hid (Lib.IsBuilder 49 5 (T + 1) (T + 1) (Lib.byteCells (s.data.toList.take i)) wr) ∧ Hid (Below (T + 1) (w.alloc (.cells #[.int .i64 2, .string t, .bool esc] 38)) wr))
    (fun iv _ => t.size - (intOf iv).toNat)
  case atStart => exact ⟨0, 0, Nat.zero_le _, rfl, HS.out.1.symm, HF, hb0⟩
  case round =>
    obtain ⟨i, k, hi', rfl, hk, HB, HW⟩ := hrel
    have hwr : T + 1 ≤ wr.heap.size := by have := HW.out.size; rw [HZ.out] at this; exact this
    have hTr : wr.heap[T]? = some (.cells #[.int .i64 2, .string t, .bool esc] 38 (0, 0)) := (HW.out.block T (by omega)).trans HT.out
    have t2 : wr.cell? ⟨T, 2, none⟩ = some (.bool esc) := by rw [Lib.cell_of_heap hTr]; rfl
    clear hTr
    have hup := HQ.out.up (s.size - i) i (by omega)
    obtain ⟨o1, o2, o3⟩ := HS.out
    have hlen : (Lib.byteCells (s.data.toList.take i)).length ≤ 1048576 := by rw [Lib.byteCells_length, List.length_take]; omega
    have hkR : k < R.size := by omega
    have hkR' : (k : Int) < (R.size : Int) := by omega
    have r0 := HG.out k hkR
    rw [hk] at r0
    by_cases hlt : i < s.size
    · have hdi := HD.out i hlt
      have hdi2 := hdb i hlt
      rcases HQ.out.step i hlt with ⟨a1, a2, a3, a4⟩ | ⟨a1, a2, a3, a4, a5, a6⟩ | ⟨a1, a2, a3, a4⟩
      · have hk1 : k + 1 < R.size := by have := HQ.out.up (s.size - (i + 1)) (i + 1) (by omega); omega
        have hk2 : (k : Int) + 1 < (R.size : Int) := by omega
        have r1 : ((R[k + 1]'hk1).toNat : Int) = q := (HG.out (k + 1) hk1).trans (by rw [hk]; exact a3)
        rw [a2] at r0
        have hbc := byte_cell s i hlt q (hdi.trans a1)
        have HC : Hid (Lib.byteCells (s.data.toList.take (i + 1)) = Lib.byteCells (s.data.toList.take i) ++ [.int .u8 q]) := hbc
        have HO : Hid (k + 3 = off (i + 1)) := by unfold Hid; omega
        have HM : Hid (k + 2 < t.size) := by unfold Hid; omega
        clear hbc o1 o2 o3 a1 a2 a3 a4 hdi hdi2 hk hup
        go_wp2_with (go_at_call 34; refine (writeByte_any (T + 1) (T + 1) _ _ wr HB.out (by omega) hwr).mono ?_; rintro e w9 ⟨rfl, hB9, hb9⟩)
        go_roundw
        case rel => exact ⟨i + 1, k + 2, by omega, by go_num, HO.out, bld_other hB9 HC.out, HW.out.trans hb9⟩
        case measure => have := HM.out; simp [intOf]; omega
      · have hk1 : k + 1 < R.size := by have := HQ.out.up (s.size - (i + 1)) (i + 1) (by omega); omega
        have hk2 : (k : Int) + 1 < (R.size : Int) := by omega
        have r1 : ((R[k + 1]'hk1).toNat : Int) = 92 := (HG.out (k + 1) hk1).trans (by rw [hk]; exact a5)
        rw [a4] at r0
        have hbc := byte_cell s i hlt 92 (hdi.trans a2)
        have HC : Hid (Lib.byteCells (s.data.toList.take (i + 1)) = Lib.byteCells (s.data.toList.take i) ++ [.int .u8 92]) := hbc
        have HO : Hid (k + 3 = off (i + 1)) := by unfold Hid; omega
        have HM : Hid (k + 2 < t.size) := by unfold Hid; omega
        subst a3
        clear hbc o1 o2 o3 a1 a2 a4 a5 a6 hdi hdi2 hk hup
        go_wp2_with (first
          | (go_at_call 33; refine (unescape_bs _).mono ?_; rintro e w' ⟨rfl, hw'⟩; obtain rfl := hw'.symm)
          | (go_at_call 32; refine (writeString_any (T + 1) (T + 1) _ _ wr HB.out (by simp [ByteArray.size]; omega) hwr).mono ?_; rintro e w9 ⟨rfl, hB9, hb9⟩))
        go_roundw
        case rel => exact ⟨i + 1, k + 2, by omega, by go_num, HO.out, bld_other hB9 HC.out, HW.out.trans hb9⟩
        case measure => have := HM.out; simp [intOf]; omega
      · rw [a3] at r0
        have hbc := byte_cell s i hlt (d i) hdi
        have HC : Hid (Lib.byteCells (s.data.toList.take (i + 1)) = Lib.byteCells (s.data.toList.take i) ++ [.int .u8 (d i)]) := hbc
        have HO : Hid (k + 2 = off (i + 1)) := by unfold Hid; omega
        have HM : Hid (k + 1 < t.size) := by unfold Hid; omega
        have hdq : (d i == q) = false := beq_eq_false_iff_ne.2 a1
        cases h92 : (d i == 92) with
        | true =>
          have hes := a2 (by simpa using h92)
          subst hes
          clear hbc o1 o2 o3 a1 a2 a3 a4 hdi hk hup
          go_wp2_with (go_at_call 34; refine (writeByte_any (T + 1) (T + 1) _ _ wr HB.out (by omega) hwr).mono ?_; rintro e w9 ⟨rfl, hB9, hb9⟩)
          go_roundw
          case rel => exact ⟨i + 1, k + 1, by omega, by go_num, HO.out, bld_other hB9 HC.out, HW.out.trans hb9⟩
          case measure => have := HM.out; simp [intOf]; omega
        | false =>
          clear hbc o1 o2 o3 a1 a2 a3 a4 hdi hk hup
          go_wp2_with (go_at_call 34; refine (writeByte_any (T + 1) (T + 1) _ _ wr HB.out (by omega) hwr).mono ?_; rintro e w9 ⟨rfl, hB9, hb9⟩)
          go_roundw
          case rel => exact ⟨i + 1, k + 1, by omega, by go_num, HO.out, bld_other hB9 HC.out, HW.out.trans hb9⟩
          case measure => have := HM.out; simp [intOf]; omega
    · have : i = s.size := by omega
      subst this
      rw [HQ.out.qn] at r0
      have hk2 : decide (((k : Int) + 1) < (R.size : Int)) = false := decide_eq_false (by omega)
      clear o2 o3 o1 hk hup
      go_wp2_with (go_at_call 35; refine (Try.Builder_String_any (T + 1) (T + 1) _ wr HB.out hwr).mono ?_; rintro e w9 ⟨rfl, hb9⟩)
      go_ret
      have hs' : (⟨(s.data.toList.take s.size).toArray⟩ : ByteArray) = s := by
        have : s.data.toList.take s.size = s.data.toList := List.take_of_length_le (Nat.le_refl _)
        rw [this]
      refine ⟨congrArg (fun x => Ending.returned (.string x)) hs', ?_⟩
      rw [hT]
      exact hbw.trans ((HW.out.trans hb9).mono (Nat.le_succ _))

set_option maxRecDepth 100000 in
theorem zzUnquoted_any (t : ByteArray) (esc : Bool) (s : ByteArray) (w : World) (h : Calls Try.prog 24 #[.agg #[.int .i64 2, .string t, .bool esc]] w fun e w' => e = .returned (.string s) ∧ Below w.heap.size w w') :
    Calls Try.prog 19 #[.string t, .bool esc] w fun e w' => e = .returned (.string s) ∧ Below w.heap.size w w' := by
  go_enter Try.func19, Try.ntmps19
  go_wp2_with fail
  refine h.mono ?_
  rintro e w1 ⟨rfl, hb⟩
  go_wp2
  go_ret
  exact ⟨rfl, hb⟩

end Go.Proofs.Qxb6001402a
