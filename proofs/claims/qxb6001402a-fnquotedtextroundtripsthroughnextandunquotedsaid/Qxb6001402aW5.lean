import Derived.Test.Qxb6001402aW2
import Derived.Test.Qxb6001402aW4
import Derived.Laws.ResultCell
namespace Go.Proofs.Qxb6001402a
open Go.RowKit

theorem Lex.alloc {w : World} {B : Nat} {t : ByteArray} {p : Int} {bs aq ic en : Bool} (h : Lex w B t p bs aq ic en) (o : Obj) : Lex (w.alloc o) B t p bs aq ic en := (Below.heap_alloc w o B h.lt).trans h

theorem zero_cell (w : World) (o : Obj) (m : Int) (hm : w.cell? ⟨0, 0, none⟩ = some (.int .i64 m)) : (w.alloc o).cell? ⟨0, 0, none⟩ = some (.int .i64 m) := by
  have h0 : 0 < w.heap.size := by
    rcases Nat.lt_or_ge 0 w.heap.size with h | h
    · exact h
    · simp [World.cell?, Array.getElem?_eq_none h] at hm
  exact (World.cell?_of_block (w := w) (Below.heap_alloc w o 0 h0)).trans hm

/-- The token's block. -/
def Tok (w : World) (T : Nat) (k : Int) (s : ByteArray) (e : Bool) : Prop := w.heap[T]? = some (.cells #[.int .i64 k, .string s, .bool e] 38 (0, 0))
theorem Tok.cell {w : World} {T : Nat} {k : Int} {s : ByteArray} {e : Bool} (h : Tok w T k s e) (j : Nat) : w.cell? ⟨T, j, none⟩ = (#[Value.int .i64 k, .string s, .bool e])[j]? := cell_of_row w T j _ 38 (0, 0) h
theorem Tok.free {w : World} {T : Nat} {k : Int} {s : ByteArray} {e : Bool} (h : Tok w T k s e) (j : Nat) : w.frozen? ⟨T, j, none⟩ = false := frozen_of_row w T j _ 38 h

set_option maxRecDepth 100000 in
/-- An ended lexer stays as it is. -/
theorem next_ended (t : ByteArray) (pos : Nat) (bs aq ic : Bool) (B : Nat) (w : World) (hL : Lex w B t pos bs aq ic true) :
    Calls Try.prog 23 #[.pointer (some ⟨B, 0, none⟩)] w fun e w' => e = .returned (.agg #[.int .i64 0, .string ⟨#[]⟩, .bool false]) ∧ Lex w' B t pos bs aq ic true ∧ Below B w w' := by
  have hB := hL.lt
  have c5' : ∀ o, (w.alloc o).cell? ⟨B, 5, none⟩ = some (.bool true) := fun o => (hL.alloc o).cell 5
  go_enter Try.func23, Try.ntmps23
  go_wp2
  exact bodyPost_ret (v := .agg #[.int .i64 0, .string ⟨#[]⟩, .bool false]) (by simp [results, Try.results23, go_sem]) rfl ⟨rfl, hL.alloc _, ((Below.refl _ _).alloc (Nat.le_of_lt hB) _)⟩

theorem Lex.other {w : World} {B : Nat} {t : ByteArray} {p : Int} {bs aq ic en : Bool} (h : Lex w B t p bs aq ic en) (T j : Nat) (hT : B ≠ T) (u : Value) : Lex (w.setCell ⟨T, j, none⟩ u) B t p bs aq ic en := (Below.heap_setCell w ⟨T, j, none⟩ u B hT).trans h

theorem hidden {p : Prop} (h : p) : Hid p := h

/-- The three quotes. -/
def isQ (c : Int) : Bool := decide (c = 39 ∨ c = 34 ∨ c = 96)
/-- Whether a backslash escapes in a token that this quote opens. -/
def escOf (c : Int) (bs aq : Bool) : Bool := (decide (c = 39) && bs) || (decide (c = 34) && bs && !aq)

/-- What next does, of a lexer that has not ended. 'g': the text's bytes. -/
def nextPost (t : ByteArray) (g : Nat → Int) (pos : Nat) (bs aq ic : Bool) (B : Nat) (w : World) (e : Ending) (w' : World) : Prop :=
  ∃ (k : Int) (tok : ByteArray) (esc : Bool) (p : Nat) (c en : Bool), e = .returned (.agg #[.int .i64 k, .string tok, .bool esc]) ∧ Lex w' B t p bs aq c en ∧ Below B w w' ∧ pos ≤ p ∧ p ≤ t.size ∧
    ((k = 0 ∧ tok = ⟨#[]⟩ ∧ en = true) ∨ (k ≠ 0 ∧ en = false ∧ ∃ p1, pos ≤ p1 ∧ p1 < p ∧ tok = t.extract p1 p)) ∧
    (StopAt (t.extract pos t.size) ic → isQ (g pos) = true → k = 2 ∧ en = false ∧ c = ic ∧ esc = escOf (g pos) bs aq ∧ tok = t.extract pos p ∧ p = qEnd g t.size (g pos) esc t.size (pos + 1))

theorem stop_lt {t : ByteArray} {pos : Nat} {c : Bool} (h : StopAt (t.extract pos t.size) c) : pos < t.size := by
  obtain ⟨⟨h, _⟩, _⟩ := h
  simp at h
  omega

theorem word_noQ (c : Int) (h : wordB c = true) : isQ c = false := by
  simp [wordB, isQ] at *
  omega

set_option maxRecDepth 100000 in
set_option maxHeartbeats 8000000 in
theorem next_any (t : ByteArray) (g : Nat → Int) (hg : ∀ (i : Nat) (h : i < t.size), ((t[i]'h).toNat : Int) = g i) (pos : Nat) (bs aq ic : Bool) (B : Nat) (m : Int) (w : World) (ht : t.size ≤ 1048576) (hp : pos ≤ t.size) (hB0 : 0 < B) (hm : w.cell? ⟨0, 0, none⟩ = some (.int .i64 m)) (hL : Lex w B t pos bs aq ic false) :
    Calls Try.prog 23 #[.pointer (some ⟨B, 0, none⟩)] w (nextPost t g pos bs aq ic B w) := by
  have hB := hL.lt
  have c5' : ∀ o, (w.alloc o).cell? ⟨B, 5, none⟩ = some (.bool false) := fun o => (hL.alloc o).cell 5
  have h22 := skip_any t pos bs aq ic false B m (w.alloc (.cells #[.int .i64 0, .string ⟨#[]⟩, .bool false] 38)) ht hp hB0 (zero_cell w _ m hm) (hL.alloc _)
  go_enter Try.func23, Try.ntmps23
  go_wp2_with fail
  refine h22.mono ?_
  rintro e w1 ⟨rfl, p1, c1, a1, a2, hL1, hO1, hS, hN⟩
  have hb1 : Below B w w1 := ((Below.refl _ _).alloc (Nat.le_of_lt hB) _).trans hO1.below
  clear h22 c5'
  obtain ⟨T, hT⟩ : ∃ T, w.heap.size = T := ⟨_, rfl⟩
  have hTB : B < T := by omega
  have hT1 : Tok w1 T 0 ⟨#[]⟩ false := by
    have := hO1.block T (by omega)
    rw [← hT] at this ⊢
    exact this.trans (heap_alloc_new w _)
  clear hS hO1 hL hm
  have HN : Hid (StopAt (t.extract pos t.size) ic → p1 = pos ∧ c1 = ic) := hN
  clear hN
  have d0 : w1.cell? ⟨B, 0, none⟩ = some (.string t) := hL1.cell 0
  have d1 : w1.cell? ⟨B, 1, none⟩ = some (.int .i64 p1) := hL1.cell 1
  have d2 : w1.cell? ⟨B, 2, none⟩ = some (.bool bs) := hL1.cell 2
  have d3 : w1.cell? ⟨B, 3, none⟩ = some (.bool aq) := hL1.cell 3
  have d5 : w1.cell? ⟨B, 5, none⟩ = some (.bool false) := hL1.cell 5
  have f1 := hL1.free 1
  have f5 := hL1.free 5
  have t0 : w1.cell? ⟨T, 0, none⟩ = some (.int .i64 0) := hT1.cell 0
  have t1 : w1.cell? ⟨T, 1, none⟩ = some (.string ⟨#[]⟩) := hT1.cell 1
  have t2 : w1.cell? ⟨T, 2, none⟩ = some (.bool false) := hT1.cell 2
  have u0 := hT1.free 0
  have u1 := hT1.free 1
  have u2 := hT1.free 2
  by_cases hend : p1 = t.size
  · have hd : ((p1 : Int) == (t.size : Int)) = true := by rw [hend]; exact beq_self_eq_true _
    have hsz : t.size ≤ p1 := by omega
    have hno : StopAt (t.extract pos t.size) ic → isQ (g pos) = true → False := fun h _ => by
      have h1 := stop_lt h
      have h2 := (HN.out h).1
      omega
    clear hend
    go_wp2
    go_quiet (fail)
    go_wp2
    go_region
    all_goals go_wp2
    all_goals exact bodyPost_ret (v := .agg #[.int .i64 0, .string ⟨#[]⟩, .bool false]) (by simp [results, Try.results23, go_sem, t0, t1, t2]) rfl ⟨0, _, _, t.size, c1, true, rfl, (((lexAt ((hL1.drewN _).pos _) (by omega)).shut true).other T 0 (by omega) _ |>.other T 1 (by omega) _ |>.other T 2 (by omega) _), (below_drewN hb1 _ |>.setCell (Nat.le_refl _) _ |>.setCell (Nat.le_refl _) _ |>.setCell (Nat.le_of_lt hTB) _ |>.setCell (Nat.le_of_lt hTB) _ |>.setCell (Nat.le_of_lt hTB) _), hp, Nat.le_refl _, .inl ⟨rfl, rfl, rfl⟩, fun h1 h2 => (hno h1 h2).elim⟩
  · have hlt : p1 < t.size := by omega
    have hlt' : (p1 : Int) < (t.size : Int) := by omega
    have hd : ((p1 : Int) == (t.size : Int)) = false := beq_eq_false_iff_ne.2 (by omega)
    have hgp := hg p1 hlt
    have hgb : 0 ≤ g p1 ∧ g p1 ≤ 255 := by
      have := (t[p1]'hlt).toNat_lt
      omega
    clear hend
    cases h59 : (g p1 == 59) with
    | true =>
      have hno : StopAt (t.extract pos t.size) ic → isQ (g pos) = true → False := fun h hq => by
        have h2 := (HN.out h).1
        rw [← h2] at hq
        have h59' : g p1 = 59 := by simpa using h59
        rw [h59'] at hq
        exact absurd hq (by decide)
      go_wp2
      go_quiet (fail)
      go_wp2
      go_region
      all_goals go_wp2
      all_goals exact bodyPost_ret (v := .agg #[.int .i64 0, .string ⟨#[]⟩, .bool false]) (by simp [results, Try.results23, go_sem, t0, t1, t2]) rfl ⟨0, _, _, p1 + 1, c1, true, rfl, (((lexAt ((hL1.drewN _).pos _) (by omega)).shut true).other T 0 (by omega) _ |>.other T 1 (by omega) _ |>.other T 2 (by omega) _), (below_drewN hb1 _ |>.setCell (Nat.le_refl _) _ |>.setCell (Nat.le_refl _) _ |>.setCell (Nat.le_of_lt hTB) _ |>.setCell (Nat.le_of_lt hTB) _ |>.setCell (Nat.le_of_lt hTB) _), by omega, by omega, .inl ⟨rfl, rfl, rfl⟩, fun h1 h2 => (hno h1 h2).elim⟩
    | false =>
      cases hw : wordB (g p1) with
      | true =>
        go_wp2
        go_quiet (fail)
        go_wp2_with (go_at_call 30; refine (isWord_any _ _).mono ?_; rintro e w' ⟨rfl, hw'⟩; obtain rfl := hw'.symm)
        have hno : StopAt (t.extract pos t.size) ic → isQ (g pos) = true → False := fun h hq => by
          have h2 := (HN.out h).1
          rw [← h2, word_noQ _ hw] at hq
          cases hq
        clear HN d0 d1 d2 d3 d5 f1 f5 t0 t1 t2 u0 u1 u2 hd
        go_loopg [] t.size (fun gf wr => ∃ k : Nat, p1 ≤ k ∧ k ≤ t.size ∧ t.size ≤ k + gf ∧ Lex wr B t k bs aq c1 false ∧ Only B w1 wr)
        case atStart => exact ⟨p1, Nat.le_refl _, a2, by omega, hL1.drewN _, (Only.refl _ _).drewN _⟩
        case round =>
          obtain ⟨k, b1, b2, b3, hLr, hO⟩ := hrel
          have d0 : wr.cell? ⟨B, 0, none⟩ = some (.string t) := hLr.cell 0
          have d1 : wr.cell? ⟨B, 1, none⟩ = some (.int .i64 k) := hLr.cell 1
          have f1 := hLr.free 1
          have hTr : Tok wr T 0 ⟨#[]⟩ false := (hO.block T (by omega)).trans hT1
          have t0 : wr.cell? ⟨T, 0, none⟩ = some (.int .i64 0) := hTr.cell 0
          have t1 : wr.cell? ⟨T, 1, none⟩ = some (.string ⟨#[]⟩) := hTr.cell 1
          have t2 : wr.cell? ⟨T, 2, none⟩ = some (.bool false) := hTr.cell 2
          have u0 := hTr.free 0
          have u1 := hTr.free 1
          have u2 := hTr.free 2
          have hbr : Below B w wr := hb1.trans hO.below
          clear hT1 hTr
          by_cases hk : k < t.size
          · have hk' : (k : Int) < (t.size : Int) := by omega
            have hgk := hg k hk
            cases hwk : wordB (g k) with
            | true =>
              clear t0 t1 t2 u0 u1 u2
              go_wp2
              go_quiet ((go_at_call 30; exact Calls.quiet_of_same (isWord_any _ _)))
              go_wp2
              go_roundg (gk - 1)
              case measure => omega
              case rel => exact ⟨k + 1, by omega, by omega, by omega, lexAt ((hLr.drewN _).pos _) (by omega), (hO.drewN _).store 1 _⟩
            | false =>
              have hkp : p1 < k := by
                rcases Nat.lt_or_ge p1 k with h | h
                · exact h
                · have : k = p1 := by omega
                  subst this
                  rw [hw] at hwk
                  cases hwk
              have hp1k : (p1 : Int) ≤ (k : Int) := by omega
              go_wp2
              go_quiet ((go_at_call 30; exact Calls.quiet_of_same (isWord_any _ _)))
              go_wp2
              go_region
              all_goals go_wp2
              all_goals exact bodyPost_ret (v := .agg #[.int .i64 1, .string (t.extract p1 k), .bool false]) (by simp [results, Try.results23, go_sem, t0, t1, t2]) rfl ⟨1, _, _, k, c1, false, rfl, ((hLr.drewN _).other T 0 (by omega) _ |>.other T 1 (by omega) _ |>.other T 2 (by omega) _), (below_drewN hbr _ |>.setCell (Nat.le_of_lt hTB) _ |>.setCell (Nat.le_of_lt hTB) _ |>.setCell (Nat.le_of_lt hTB) _), by omega, by omega, .inr ⟨by decide, rfl, p1, a1, hkp, rfl⟩, fun h1 h2 => (hno h1 h2).elim⟩
          · have hdk : decide ((k : Int) < (t.size : Int)) = false := decide_eq_false (by omega)
            have hkp : p1 < k := by omega
            have hp1k : (p1 : Int) ≤ (k : Int) := by omega
            have hkt : (k : Int) ≤ (t.size : Int) := by omega
            go_wp2
            go_quiet ((go_at_call 30; exact Calls.quiet_of_same (isWord_any _ _)))
            go_wp2
            go_region
            all_goals go_wp2
            all_goals exact bodyPost_ret (v := .agg #[.int .i64 1, .string (t.extract p1 k), .bool false]) (by simp [results, Try.results23, go_sem, t0, t1, t2]) rfl ⟨1, _, _, k, c1, false, rfl, ((hLr.drewN _).other T 0 (by omega) _ |>.other T 1 (by omega) _ |>.other T 2 (by omega) _), (below_drewN hbr _ |>.setCell (Nat.le_of_lt hTB) _ |>.setCell (Nat.le_of_lt hTB) _ |>.setCell (Nat.le_of_lt hTB) _), by omega, by omega, .inr ⟨by decide, rfl, p1, a1, hkp, rfl⟩, fun h1 h2 => (hno h1 h2).elim⟩
      | false =>
        by_cases q39 : g p1 = 39
        · have hgq := q39
          have e39 : (g p1 == 39) = true := beq_iff_eq.2 q39
          clear q39
          cases bs with
          | false =>
            have e34 : (g p1 == 34) = false := beq_eq_false_iff_ne.2 (by omega)
            have c31 := fun W => quoteEnd_any t g hg p1 (g p1) rfl false hlt ht W
            obtain ⟨P2, hP2⟩ : ∃ P2 : Nat, qEnd g t.size (g p1) false t.size (p1 + 1) = P2 := ⟨_, rfl⟩
            have hbd := qEnd_bd g t.size (g p1) false t.size (p1 + 1) (by omega)
            rw [hP2] at hbd
            simp only [hP2] at c31
            have hP1 : (p1 : Int) ≤ (P2 : Int) := by omega
            have hP3 : (P2 : Int) ≤ (t.size : Int) := by omega
            have hesc : escOf (g p1) false aq = false := by simp [escOf, hgq]
            have hfin : StopAt (t.extract pos t.size) ic → isQ (g pos) = true → c1 = ic ∧ false = escOf (g pos) false aq ∧ t.extract p1 P2 = t.extract pos P2 ∧ P2 = qEnd g t.size (g pos) false t.size (pos + 1) := fun h _ => by
              obtain ⟨e1, e2⟩ := HN.out h
              rw [← e1]
              exact ⟨e2, hesc.symm, rfl, hP2.symm⟩
            have HF := hidden hfin
            clear hfin hP2 hesc HN hgq
            go_wp2
            go_quiet (fail)
            go_wp2_with (first
              | (go_at_call 30; refine (isWord_any _ _).mono ?_; rintro e w' ⟨rfl, hw'⟩; obtain rfl := hw'.symm)
              | (go_at_call 31; refine (c31 _).mono ?_; rintro e w' ⟨rfl, hw'⟩; obtain rfl := hw'.symm))
            go_region
            all_goals go_wp2
            all_goals exact bodyPost_ret (v := .agg #[.int .i64 2, .string (t.extract p1 P2), .bool false]) (by simp [results, Try.results23, go_sem, t0, t1, t2]) rfl ⟨2, _, _, P2, c1, false, rfl, ((hL1.drewN _).pos _ |>.other T 0 (by omega) _ |>.other T 1 (by omega) _ |>.other T 2 (by omega) _), (((((below_drewN hb1 _).setCell (p := ⟨B, 1, none⟩) (Nat.le_refl _) _).setCell (p := ⟨T, 0, none⟩) (Nat.le_of_lt hTB) _).setCell (p := ⟨T, 1, none⟩) (Nat.le_of_lt hTB) _).setCell (p := ⟨T, 2, none⟩) (Nat.le_of_lt hTB) _).drew, by omega, by omega, .inr ⟨by decide, rfl, p1, a1, by omega, rfl⟩, fun h1 h2 => ⟨rfl, rfl, HF.out h1 h2⟩⟩
          | true =>
            have c31 := fun W => quoteEnd_any t g hg p1 (g p1) rfl true hlt ht W
            obtain ⟨P2, hP2⟩ : ∃ P2 : Nat, qEnd g t.size (g p1) true t.size (p1 + 1) = P2 := ⟨_, rfl⟩
            have hbd := qEnd_bd g t.size (g p1) true t.size (p1 + 1) (by omega)
            rw [hP2] at hbd
            simp only [hP2] at c31
            have hP1 : (p1 : Int) ≤ (P2 : Int) := by omega
            have hP3 : (P2 : Int) ≤ (t.size : Int) := by omega
            have hesc : escOf (g p1) true aq = true := by simp [escOf, hgq]
            have hfin : StopAt (t.extract pos t.size) ic → isQ (g pos) = true → c1 = ic ∧ true = escOf (g pos) true aq ∧ t.extract p1 P2 = t.extract pos P2 ∧ P2 = qEnd g t.size (g pos) true t.size (pos + 1) := fun h _ => by
              obtain ⟨e1, e2⟩ := HN.out h
              rw [← e1]
              exact ⟨e2, hesc.symm, rfl, hP2.symm⟩
            have HF := hidden hfin
            clear hfin hP2 hesc HN hgq
            go_wp2
            go_quiet (fail)
            go_wp2_with (first
              | (go_at_call 30; refine (isWord_any _ _).mono ?_; rintro e w' ⟨rfl, hw'⟩; obtain rfl := hw'.symm)
              | (go_at_call 31; refine (c31 _).mono ?_; rintro e w' ⟨rfl, hw'⟩; obtain rfl := hw'.symm))
            go_region
            all_goals go_wp2
            all_goals exact bodyPost_ret (v := .agg #[.int .i64 2, .string (t.extract p1 P2), .bool true]) (by simp [results, Try.results23, go_sem, t0, t1, t2]) rfl ⟨2, _, _, P2, c1, false, rfl, ((hL1.drewN _).pos _ |>.other T 0 (by omega) _ |>.other T 1 (by omega) _ |>.other T 2 (by omega) _), (((((below_drewN hb1 _).setCell (p := ⟨B, 1, none⟩) (Nat.le_refl _) _).setCell (p := ⟨T, 0, none⟩) (Nat.le_of_lt hTB) _).setCell (p := ⟨T, 1, none⟩) (Nat.le_of_lt hTB) _).setCell (p := ⟨T, 2, none⟩) (Nat.le_of_lt hTB) _).drew, by omega, by omega, .inr ⟨by decide, rfl, p1, a1, by omega, rfl⟩, fun h1 h2 => ⟨rfl, rfl, HF.out h1 h2⟩⟩
        · have e39 : (g p1 == 39) = false := beq_eq_false_iff_ne.2 q39
          by_cases q34 : g p1 = 34
          · have hgq := q34
            have e34 : (g p1 == 34) = true := beq_iff_eq.2 q34
            clear q34 q39
            cases bs with
            | false =>
              have c31 := fun W => quoteEnd_any t g hg p1 (g p1) rfl false hlt ht W
              obtain ⟨P2, hP2⟩ : ∃ P2 : Nat, qEnd g t.size (g p1) false t.size (p1 + 1) = P2 := ⟨_, rfl⟩
              have hbd := qEnd_bd g t.size (g p1) false t.size (p1 + 1) (by omega)
              rw [hP2] at hbd
              simp only [hP2] at c31
              have hP1 : (p1 : Int) ≤ (P2 : Int) := by omega
              have hP3 : (P2 : Int) ≤ (t.size : Int) := by omega
              have hesc : escOf (g p1) false aq = false := by simp [escOf, hgq]
              have hfin : StopAt (t.extract pos t.size) ic → isQ (g pos) = true → c1 = ic ∧ false = escOf (g pos) false aq ∧ t.extract p1 P2 = t.extract pos P2 ∧ P2 = qEnd g t.size (g pos) false t.size (pos + 1) := fun h _ => by
                obtain ⟨e1, e2⟩ := HN.out h
                rw [← e1]
                exact ⟨e2, hesc.symm, rfl, hP2.symm⟩
              have HF := hidden hfin
              clear hfin hP2 hesc HN hgq
              go_wp2
              go_quiet (fail)
              go_wp2_with (first
                | (go_at_call 30; refine (isWord_any _ _).mono ?_; rintro e w' ⟨rfl, hw'⟩; obtain rfl := hw'.symm)
                | (go_at_call 31; refine (c31 _).mono ?_; rintro e w' ⟨rfl, hw'⟩; obtain rfl := hw'.symm))
              go_region
              all_goals go_wp2
              all_goals exact bodyPost_ret (v := .agg #[.int .i64 2, .string (t.extract p1 P2), .bool false]) (by simp [results, Try.results23, go_sem, t0, t1, t2]) rfl ⟨2, _, _, P2, c1, false, rfl, ((hL1.drewN _).pos _ |>.other T 0 (by omega) _ |>.other T 1 (by omega) _ |>.other T 2 (by omega) _), (((((below_drewN hb1 _).setCell (p := ⟨B, 1, none⟩) (Nat.le_refl _) _).setCell (p := ⟨T, 0, none⟩) (Nat.le_of_lt hTB) _).setCell (p := ⟨T, 1, none⟩) (Nat.le_of_lt hTB) _).setCell (p := ⟨T, 2, none⟩) (Nat.le_of_lt hTB) _).drew, by omega, by omega, .inr ⟨by decide, rfl, p1, a1, by omega, rfl⟩, fun h1 h2 => ⟨rfl, rfl, HF.out h1 h2⟩⟩
            | true =>
              cases aq with
              | false =>
                have c31 := fun W => quoteEnd_any t g hg p1 (g p1) rfl true hlt ht W
                obtain ⟨P2, hP2⟩ : ∃ P2 : Nat, qEnd g t.size (g p1) true t.size (p1 + 1) = P2 := ⟨_, rfl⟩
                have hbd := qEnd_bd g t.size (g p1) true t.size (p1 + 1) (by omega)
                rw [hP2] at hbd
                simp only [hP2] at c31
                have hP1 : (p1 : Int) ≤ (P2 : Int) := by omega
                have hP3 : (P2 : Int) ≤ (t.size : Int) := by omega
                have hesc : escOf (g p1) true false = true := by simp [escOf, hgq]
                have hfin : StopAt (t.extract pos t.size) ic → isQ (g pos) = true → c1 = ic ∧ true = escOf (g pos) true false ∧ t.extract p1 P2 = t.extract pos P2 ∧ P2 = qEnd g t.size (g pos) true t.size (pos + 1) := fun h _ => by
                  obtain ⟨e1, e2⟩ := HN.out h
                  rw [← e1]
                  exact ⟨e2, hesc.symm, rfl, hP2.symm⟩
                have HF := hidden hfin
                clear hfin hP2 hesc HN hgq
                go_wp2
                go_quiet (fail)
                go_wp2_with (first
                  | (go_at_call 30; refine (isWord_any _ _).mono ?_; rintro e w' ⟨rfl, hw'⟩; obtain rfl := hw'.symm)
                  | (go_at_call 31; refine (c31 _).mono ?_; rintro e w' ⟨rfl, hw'⟩; obtain rfl := hw'.symm))
                go_region
                all_goals go_wp2
                all_goals exact bodyPost_ret (v := .agg #[.int .i64 2, .string (t.extract p1 P2), .bool true]) (by simp [results, Try.results23, go_sem, t0, t1, t2]) rfl ⟨2, _, _, P2, c1, false, rfl, ((hL1.drewN _).pos _ |>.other T 0 (by omega) _ |>.other T 1 (by omega) _ |>.other T 2 (by omega) _), (((((below_drewN hb1 _).setCell (p := ⟨B, 1, none⟩) (Nat.le_refl _) _).setCell (p := ⟨T, 0, none⟩) (Nat.le_of_lt hTB) _).setCell (p := ⟨T, 1, none⟩) (Nat.le_of_lt hTB) _).setCell (p := ⟨T, 2, none⟩) (Nat.le_of_lt hTB) _).drew, by omega, by omega, .inr ⟨by decide, rfl, p1, a1, by omega, rfl⟩, fun h1 h2 => ⟨rfl, rfl, HF.out h1 h2⟩⟩
              | true =>
                have c31 := fun W => quoteEnd_any t g hg p1 (g p1) rfl false hlt ht W
                obtain ⟨P2, hP2⟩ : ∃ P2 : Nat, qEnd g t.size (g p1) false t.size (p1 + 1) = P2 := ⟨_, rfl⟩
                have hbd := qEnd_bd g t.size (g p1) false t.size (p1 + 1) (by omega)
                rw [hP2] at hbd
                simp only [hP2] at c31
                have hP1 : (p1 : Int) ≤ (P2 : Int) := by omega
                have hP3 : (P2 : Int) ≤ (t.size : Int) := by omega
                have hesc : escOf (g p1) true true = false := by simp [escOf, hgq]
                have hfin : StopAt (t.extract pos t.size) ic → isQ (g pos) = true → c1 = ic ∧ false = escOf (g pos) true true ∧ t.extract p1 P2 = t.extract pos P2 ∧ P2 = qEnd g t.size (g pos) false t.size (pos + 1) := fun h _ => by
                  obtain ⟨e1, e2⟩ := HN.out h
                  rw [← e1]
                  exact ⟨e2, hesc.symm, rfl, hP2.symm⟩
                have HF := hidden hfin
                clear hfin hP2 hesc HN hgq
                go_wp2
                go_quiet (fail)
                go_wp2_with (first
                  | (go_at_call 30; refine (isWord_any _ _).mono ?_; rintro e w' ⟨rfl, hw'⟩; obtain rfl := hw'.symm)
                  | (go_at_call 31; refine (c31 _).mono ?_; rintro e w' ⟨rfl, hw'⟩; obtain rfl := hw'.symm))
                go_region
                all_goals go_wp2
                all_goals exact bodyPost_ret (v := .agg #[.int .i64 2, .string (t.extract p1 P2), .bool false]) (by simp [results, Try.results23, go_sem, t0, t1, t2]) rfl ⟨2, _, _, P2, c1, false, rfl, ((hL1.drewN _).pos _ |>.other T 0 (by omega) _ |>.other T 1 (by omega) _ |>.other T 2 (by omega) _), (((((below_drewN hb1 _).setCell (p := ⟨B, 1, none⟩) (Nat.le_refl _) _).setCell (p := ⟨T, 0, none⟩) (Nat.le_of_lt hTB) _).setCell (p := ⟨T, 1, none⟩) (Nat.le_of_lt hTB) _).setCell (p := ⟨T, 2, none⟩) (Nat.le_of_lt hTB) _).drew, by omega, by omega, .inr ⟨by decide, rfl, p1, a1, by omega, rfl⟩, fun h1 h2 => ⟨rfl, rfl, HF.out h1 h2⟩⟩
          · have e34 : (g p1 == 34) = false := beq_eq_false_iff_ne.2 q34
            by_cases q96 : g p1 = 96
            · have hgq := q96
              have e96 : (g p1 == 96) = true := beq_iff_eq.2 q96
              clear q34 q39 q96
              have c31 := fun W => quoteEnd_any t g hg p1 (g p1) rfl false hlt ht W
              obtain ⟨P2, hP2⟩ : ∃ P2 : Nat, qEnd g t.size (g p1) false t.size (p1 + 1) = P2 := ⟨_, rfl⟩
              have hbd := qEnd_bd g t.size (g p1) false t.size (p1 + 1) (by omega)
              rw [hP2] at hbd
              simp only [hP2] at c31
              have hP1 : (p1 : Int) ≤ (P2 : Int) := by omega
              have hP3 : (P2 : Int) ≤ (t.size : Int) := by omega
              have hesc : escOf (g p1) bs aq = false := by simp [escOf, hgq]
              have hfin : StopAt (t.extract pos t.size) ic → isQ (g pos) = true → c1 = ic ∧ false = escOf (g pos) bs aq ∧ t.extract p1 P2 = t.extract pos P2 ∧ P2 = qEnd g t.size (g pos) false t.size (pos + 1) := fun h _ => by
                obtain ⟨e1, e2⟩ := HN.out h
                rw [← e1]
                exact ⟨e2, hesc.symm, rfl, hP2.symm⟩
              have HF := hidden hfin
              clear hfin hP2 hesc HN hgq
              go_wp2
              go_quiet (fail)
              go_wp2_with (first
                | (go_at_call 30; refine (isWord_any _ _).mono ?_; rintro e w' ⟨rfl, hw'⟩; obtain rfl := hw'.symm)
                | (go_at_call 31; refine (c31 _).mono ?_; rintro e w' ⟨rfl, hw'⟩; obtain rfl := hw'.symm))
              go_region
              all_goals go_wp2
              all_goals exact bodyPost_ret (v := .agg #[.int .i64 2, .string (t.extract p1 P2), .bool false]) (by simp [results, Try.results23, go_sem, t0, t1, t2]) rfl ⟨2, _, _, P2, c1, false, rfl, ((hL1.drewN _).pos _ |>.other T 0 (by omega) _ |>.other T 1 (by omega) _ |>.other T 2 (by omega) _), (((((below_drewN hb1 _).setCell (p := ⟨B, 1, none⟩) (Nat.le_refl _) _).setCell (p := ⟨T, 0, none⟩) (Nat.le_of_lt hTB) _).setCell (p := ⟨T, 1, none⟩) (Nat.le_of_lt hTB) _).setCell (p := ⟨T, 2, none⟩) (Nat.le_of_lt hTB) _).drew, by omega, by omega, .inr ⟨by decide, rfl, p1, a1, by omega, rfl⟩, fun h1 h2 => ⟨rfl, rfl, HF.out h1 h2⟩⟩
            · have e96 : (g p1 == 96) = false := beq_eq_false_iff_ne.2 q96
              have hno : StopAt (t.extract pos t.size) ic → isQ (g pos) = true → False := fun h hq => by
                have h2 := (HN.out h).1
                rw [← h2] at hq
                simp only [isQ, decide_eq_true_eq] at hq
                omega
              have hp1k : (p1 : Int) ≤ (p1 : Int) + 1 := by omega
              have hkt : (p1 : Int) + 1 ≤ (t.size : Int) := by omega
              clear HN q39 q34 q96
              go_wp2
              go_quiet (fail)
              go_wp2_with (go_at_call 30; refine (isWord_any _ _).mono ?_; rintro e w' ⟨rfl, hw'⟩; obtain rfl := hw'.symm)
              go_region
              all_goals go_wp2
              all_goals exact bodyPost_ret (v := .agg #[.int .i64 3, .string (t.extract p1 (p1 + 1)), .bool false]) (by simp [results, Try.results23, go_sem, t0, t1, t2]) rfl ⟨3, _, _, p1 + 1, c1, false, rfl, (lexAt ((hL1.drewN _).pos _) (by omega) |>.other T 0 (by omega) _ |>.other T 1 (by omega) _ |>.other T 2 (by omega) _), (((((below_drewN hb1 _).setCell (p := ⟨B, 1, none⟩) (Nat.le_refl _) _).setCell (p := ⟨T, 0, none⟩) (Nat.le_of_lt hTB) _).setCell (p := ⟨T, 1, none⟩) (Nat.le_of_lt hTB) _).setCell (p := ⟨T, 2, none⟩) (Nat.le_of_lt hTB) _).drew, by omega, by omega, .inr ⟨by decide, rfl, p1, a1, by omega, rfl⟩, fun h1 h2 => (hno h1 h2).elim⟩

end Go.Proofs.Qxb6001402a
