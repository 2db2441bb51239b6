import Derived.Test.Qxb6001402aW1
import Derived.Deep.LoopGhost
import Derived.Deep.QuietTactic
import Derived.BigQuiet
import Derived.RegionTactic
import Derived.BigRegion
import Derived.Deep.RegionWith
import Derived.Deep.DeepCutAuto
import Derived.StillTailTactics
import Derived.Lib.IndexMore
namespace Go.Proofs.Qxb6001402a
open Go.RowKit

/-- The lexer's block. -/
def lexCells (t : ByteArray) (p : Int) (bs aq ic en : Bool) : Array Value := #[.string t, .int .i64 p, .bool bs, .bool aq, .bool ic, .bool en]
def Lex (w : World) (B : Nat) (t : ByteArray) (p : Int) (bs aq ic en : Bool) : Prop := w.heap[B]? = some (.cells (lexCells t p bs aq ic en) 35 (0, 0))

theorem Lex.cell {w : World} {B : Nat} {t : ByteArray} {p : Int} {bs aq ic en : Bool} (h : Lex w B t p bs aq ic en) (j : Nat) : w.cell? ⟨B, j, none⟩ = (lexCells t p bs aq ic en)[j]? := cell_of_row w B j _ 35 (0, 0) h
theorem Lex.free {w : World} {B : Nat} {t : ByteArray} {p : Int} {bs aq ic en : Bool} (h : Lex w B t p bs aq ic en) (j : Nat) : w.frozen? ⟨B, j, none⟩ = false := frozen_of_row w B j _ 35 h
theorem Lex.pos {w : World} {B : Nat} {t : ByteArray} {p : Int} {bs aq ic en : Bool} (h : Lex w B t p bs aq ic en) (q : Int) : Lex (w.setCell ⟨B, 1, none⟩ (.int .i64 q)) B t q bs aq ic en := heap_setCell_same w B 1 _ 35 _ h
theorem Lex.code {w : World} {B : Nat} {t : ByteArray} {p : Int} {bs aq ic en : Bool} (h : Lex w B t p bs aq ic en) (c : Bool) : Lex (w.setCell ⟨B, 4, none⟩ (.bool c)) B t p bs aq c en := heap_setCell_same w B 4 _ 35 _ h
theorem Lex.shut {w : World} {B : Nat} {t : ByteArray} {p : Int} {bs aq ic en : Bool} (h : Lex w B t p bs aq ic en) (c : Bool) : Lex (w.setCell ⟨B, 5, none⟩ (.bool c)) B t p bs aq ic c := heap_setCell_same w B 5 _ 35 _ h
theorem Lex.lt {w : World} {B : Nat} {t : ByteArray} {p : Int} {bs aq ic en : Bool} (h : Lex w B t p bs aq ic en) : B < w.heap.size := (Array.getElem?_eq_some_iff.1 h).1

theorem Lex.drewN {w : World} {B : Nat} {t : ByteArray} {p : Int} {bs aq ic en : Bool} (h : Lex w B t p bs aq ic en) (n : Nat) : Lex (w.drewN n) B t p bs aq ic en := h
theorem Lex.drew {w : World} {B : Nat} {t : ByteArray} {p : Int} {bs aq ic en : Bool} (h : Lex w B t p bs aq ic en) : Lex w.drew B t p bs aq ic en := h

/-- Block B alone has turned; no block is new. -/
structure Only (B : Nat) (w w' : World) : Prop where
  os : w'.os = w.os
  tape : w'.tape = w.tape
  output : w'.output = w.output
  size : w'.heap.size = w.heap.size
  block : ∀ k, k ≠ B → w'.heap[k]? = w.heap[k]?

theorem Only.refl (B : Nat) (w : World) : Only B w w := ⟨rfl, rfl, rfl, rfl, fun _ _ => rfl⟩
theorem Only.trans {B : Nat} {a b c : World} (h : Only B a b) (k : Only B b c) : Only B a c :=
  ⟨k.os.trans h.os, k.tape.trans h.tape, k.output.trans h.output, k.size.trans h.size, fun i hi => (k.block i hi).trans (h.block i hi)⟩
theorem Only.drewN {B : Nat} {a w : World} (h : Only B a w) (n : Nat) : Only B a (w.drewN n) := ⟨h.os, h.tape, h.output, h.size, h.block⟩
theorem Only.drew {B : Nat} {a w : World} (h : Only B a w) : Only B a w.drew := ⟨h.os, h.tape, h.output, h.size, h.block⟩
theorem Only.store {B : Nat} {a w : World} (h : Only B a w) (j : Nat) (u : Value) : Only B a (w.setCell ⟨B, j, none⟩ u) :=
  h.trans ⟨rfl, rfl, rfl, by simp, fun k hk => Below.heap_setCell w ⟨B, j, none⟩ u k hk⟩
theorem Only.below {B : Nat} {w w' : World} (h : Only B w w') : Below B w w' := ⟨h.os, h.tape, h.output, Nat.le_of_eq h.size.symm, fun k hk => h.block k (by omega)⟩

/-- Nothing to skip begins here. -/
def StopAt (R : ByteArray) (c : Bool) : Prop :=
  (∃ h : 0 < R.size, spB ((R[0]'h).toNat : Int) = false ∧ (((R[0]'h).toNat : Int) == 35) = false) ∧
  (Lib.hasPrefix R.data.toList [45, 45] = true → ∃ h : 2 < R.size, spB ((R[2]'h).toNat : Int) = false) ∧
  Lib.hasPrefix R.data.toList [47, 42] = false ∧ (c = true → Lib.hasPrefix R.data.toList [42, 47] = false)

theorem indexByte_bd : ∀ (l : List UInt8) (c : UInt8), -1 ≤ Lib.indexByte l c ∧ Lib.indexByte l c < l.length
  | [], c => by simp [Lib.indexByte]
  | b :: l, c => by
    have ih := indexByte_bd l c
    simp only [Lib.indexByte, List.length_cons]
    (repeat' split) <;> omega

theorem prefix2_size (R : ByteArray) (a b : UInt8) (h : Lib.hasPrefix R.data.toList [a, b] = true) : 2 ≤ R.size := by
  rw [Lib.size_eq]
  have := (List.isPrefixOf_iff_prefix.1 h).length_le
  simpa using this

theorem bang3 (l : List UInt8) (h : Lib.hasPrefix l [47, 42, 33] = true) : Lib.indexByte l 33 = 2 ∧ 3 ≤ l.length := by
  obtain ⟨r, rfl⟩ := List.isPrefixOf_iff_prefix.1 h
  exact ⟨by simp [Lib.indexByte], by simp⟩
theorem bang4 (l : List UInt8) (h : Lib.hasPrefix l [47, 42, 77, 33] = true) : Lib.indexByte l 33 = 3 ∧ 4 ≤ l.length := by
  obtain ⟨r, rfl⟩ := List.isPrefixOf_iff_prefix.1 h
  exact ⟨by simp [Lib.indexByte], by simp⟩
theorem dash_no (l s : List UInt8) (a : UInt8) (ha : a ≠ 45) (h : Lib.hasPrefix l [45, 45] = true) : Lib.hasPrefix l (a :: s) = false := by
  obtain ⟨r, rfl⟩ := List.isPrefixOf_iff_prefix.1 h
  simp [Lib.hasPrefix, List.isPrefixOf, ha]
theorem longer_no (l s : List UInt8) (h : Lib.hasPrefix l [47, 42] = false) : Lib.hasPrefix l (47 :: 42 :: s) = false := by
  cases hp : Lib.hasPrefix l (47 :: 42 :: s) with
  | false => rfl
  | true =>
    obtain ⟨r, rfl⟩ := List.isPrefixOf_iff_prefix.1 hp
    simp [Lib.hasPrefix, List.isPrefixOf] at h

def skipPost (t : ByteArray) (pos : Nat) (bs aq ic en : Bool) (B : Nat) (w : World) (e : Ending) (w' : World) : Prop :=
  e = .returned (.tuple #[]) ∧ ∃ (p : Nat) (c : Bool), pos ≤ p ∧ p ≤ t.size ∧ Lex w' B t p bs aq c en ∧ Only B w w' ∧ (p < t.size → StopAt (t.extract p t.size) c) ∧ (StopAt (t.extract pos t.size) ic → p = pos ∧ c = ic)

theorem wrap_id (x : Int) (h0 : -4000000 ≤ x) (h1 : x ≤ 4000000) : IntKind.i64.wrap x = x := by
  rw [IntKind.wrap_i64]
  omega

theorem lexAt {w : World} {B : Nat} {t : ByteArray} {p q : Int} {bs aq ic en : Bool} (h : Lex w B t p bs aq ic en) (e : p = q) : Lex w B t q bs aq ic en := e ▸ h

set_option maxRecDepth 100000 in
set_option maxHeartbeats 4000000 in
theorem skip_any (t : ByteArray) (pos : Nat) (bs aq ic en : Bool) (B : Nat) (m : Int) (w : World) (ht : t.size ≤ 1048576) (hp : pos ≤ t.size) (hB0 : 0 < B) (hm : w.cell? ⟨0, 0, none⟩ = some (.int .i64 m)) (hL : Lex w B t pos bs aq ic en) :
    Calls Try.prog 22 #[.pointer (some ⟨B, 0, none⟩)] w (skipPost t pos bs aq ic en B w) := by
  go_enter Try.func22, Try.ntmps22
  go_wp2
  go_loopg [] t.size (fun gf wr => ∃ (p : Nat) (c : Bool), pos ≤ p ∧ p ≤ t.size ∧ t.size ≤ p + gf ∧ Lex wr B t p bs aq c en ∧ Only B w wr ∧ ((p = pos ∧ c = ic) ∨ ¬ StopAt (t.extract pos t.size) ic))
  case atStart => exact ⟨pos, ic, by omega, hp, by omega, hL, Only.refl _ _, .inl ⟨rfl, rfl⟩⟩
  case round =>
    obtain ⟨p, c, h1, h2, h3, hLr, hO, hst⟩ := hrel
    have c0 : wr.cell? ⟨B, 0, none⟩ = some (.string t) := hLr.cell 0
    have c1 : wr.cell? ⟨B, 1, none⟩ = some (.int .i64 p) := hLr.cell 1
    have c4 : wr.cell? ⟨B, 4, none⟩ = some (.bool c) := hLr.cell 4
    have f1 := hLr.free 1
    have f4 := hLr.free 4
    have hmr : wr.cell? ⟨0, 0, none⟩ = some (.int .i64 m) := (World.cell?_of_block (w := w) (hO.block 0 (by omega))).trans hm
    by_cases hlt : p < t.size
    · obtain ⟨R, hR⟩ : ∃ R, t.extract p t.size = R := ⟨_, rfl⟩
      have hRs : R.size = t.size - p := by rw [← hR]; simp
      have hmv : ∀ (p' : Nat) (c' : Bool), ¬ StopAt R c → ((p' = pos ∧ c' = ic) ∨ ¬ StopAt (t.extract pos t.size) ic) := fun p' c' h => .inr (by
        rcases hst with ⟨rfl, rfl⟩ | h'
        · rw [hR]; exact h
        · exact h')
      have HMV : Hid (∀ (p' : Nat) (c' : Bool), ¬ StopAt R c → ((p' = pos ∧ c' = ic) ∨ ¬ StopAt (t.extract pos t.size) ic)) := hmv
      have HST : Hid ((p = pos ∧ c = ic) ∨ ¬ StopAt (t.extract pos t.size) ic) := hst
      clear hmv hst
      have hR0 : 0 < R.size := by omega
      have hRm : R.size ≤ 1048576 := by omega
      have hpR : p + R.size = t.size := by omega
      have HpR : Hid (p + R.size = t.size) := hpR
      clear hpR hRs
      obtain ⟨e, he1, he2, cIB⟩ : ∃ e : Int, -1 ≤ e ∧ e < R.size ∧ ∀ W, Calls Try.prog 27 #[.string R, .int .u8 10] W fun e' w' => e' = .returned (.int .i64 e) ∧ w' = W := by
        have := indexByte_bd R.data.toList (10 : Int).toNat.toUInt8
        rw [← Lib.size_eq] at this
        exact ⟨_, this.1, this.2, fun W => Try.strings_IndexByte R 10 W⟩
      obtain ⟨x, hx1, hx2, cIX⟩ : ∃ x : Int, -1 ≤ x ∧ (2 ≤ R.size → x + 4 ≤ R.size ∨ x = -1) ∧ ∀ W, W.cell? ⟨0, 0, none⟩ = some (.int .i64 m) → Calls Try.prog 29 #[.string (R.extract 2 R.size), .string ⟨#[42, 47]⟩] W fun e' w' => e' = .returned (.int .i64 x) ∧ w' = W := by
        refine ⟨_, Lib.index_ge _ _, ?_, fun W hW => Try.strings_Index (R.extract 2 R.size) ⟨#[42, 47]⟩ m W (by simp; omega) hW⟩
        intro h2
        by_cases hx : Lib.index (R.extract 2 R.size).data.toList (⟨#[42, 47]⟩ : ByteArray).data.toList = -1
        · exact .inr hx
        · have hg := Lib.index_ge (R.extract 2 R.size).data.toList (⟨#[42, 47]⟩ : ByteArray).data.toList
          have := Lib.index_room (R.extract 2 R.size).data.toList (⟨#[42, 47]⟩ : ByteArray).data.toList (by omega)
          have hz : (R.extract 2 R.size).data.toList.length = R.size - 2 := by rw [← Lib.size_eq]; simp
          have hz2 : (⟨#[42, 47]⟩ : ByteArray).data.toList.length = 2 := rfl
          rw [hz, hz2] at this
          exact .inl (by omega)
      go_wp2
      go_quiet (fail)
      go_wp2
      go_quiet (fail)
      by_cases hsp : spB ((R[0]'hR0).toNat : Int) = true
      · go_wp2_with (first
          | (go_at_call 25; refine (isSpace_any _ _).mono ?_; rintro e w' ⟨rfl, hw'⟩; obtain rfl := hw'.symm)
          | (go_at_call 26; refine (Try.strings_HasPrefix _ _ _).mono ?_; rintro e w' ⟨rfl, hw'⟩; obtain rfl := hw'.symm)
          | (go_at_call 27; refine (cIB _).mono ?_; rintro e w' ⟨rfl, hw'⟩; obtain rfl := hw'.symm)
          | (go_at_call 29; refine (cIX _ (by exact hmr)).mono ?_; rintro e w' ⟨rfl, hw'⟩; obtain rfl := hw'.symm))
        go_roundg (gk - 1)
        case measure => omega
        case rel => exact ⟨p + 1, c, by omega, by omega, by omega, lexAt ((hLr.drewN _).pos _) (by omega), (hO.drewN _).store 1 _, HMV.out _ _ (fun h => by obtain ⟨⟨_, h, _⟩, _⟩ := h; rw [hsp] at h; cases h)⟩
      · have hsp' : spB ((R[0]'hR0).toNat : Int) = false := by simpa using hsp
        clear hsp
        by_cases h35 : (((R[0]'hR0).toNat : Int) == 35) = true
        · by_cases he : 0 ≤ e
          ·   go_wp2_with (first
                | (go_at_call 25; refine (isSpace_any _ _).mono ?_; rintro e w' ⟨rfl, hw'⟩; obtain rfl := hw'.symm)
                | (go_at_call 26; refine (Try.strings_HasPrefix _ _ _).mono ?_; rintro e w' ⟨rfl, hw'⟩; obtain rfl := hw'.symm)
                | (go_at_call 27; refine (cIB _).mono ?_; rintro e w' ⟨rfl, hw'⟩; obtain rfl := hw'.symm)
                | (go_at_call 29; refine (cIX _ (by exact hmr)).mono ?_; rintro e w' ⟨rfl, hw'⟩; obtain rfl := hw'.symm))
              go_roundg (gk - 1)
              case measure => omega
              case rel => exact ⟨p + (e + 1).toNat, c, by omega, by have := HpR.out; omega, by have := HpR.out; omega, lexAt ((hLr.drewN _).pos _) (by omega), (hO.drewN _).store 1 _, HMV.out _ _ (fun h => by obtain ⟨⟨_, _, h⟩, _⟩ := h; rw [h35] at h; cases h)⟩
          ·   go_wp2_with (first
                | (go_at_call 25; refine (isSpace_any _ _).mono ?_; rintro e w' ⟨rfl, hw'⟩; obtain rfl := hw'.symm)
                | (go_at_call 26; refine (Try.strings_HasPrefix _ _ _).mono ?_; rintro e w' ⟨rfl, hw'⟩; obtain rfl := hw'.symm)
                | (go_at_call 27; refine (cIB _).mono ?_; rintro e w' ⟨rfl, hw'⟩; obtain rfl := hw'.symm)
                | (go_at_call 29; refine (cIX _ (by exact hmr)).mono ?_; rintro e w' ⟨rfl, hw'⟩; obtain rfl := hw'.symm))
              go_roundg (gk - 1)
              case measure => omega
              case rel => exact ⟨t.size, c, by omega, by have := HpR.out; omega, by have := HpR.out; omega, lexAt ((hLr.drewN _).pos _) (by omega), (hO.drewN _).store 1 _, HMV.out _ _ (fun h => by obtain ⟨⟨_, _, h⟩, _⟩ := h; rw [h35] at h; cases h)⟩
        · have h35 : (((R[0]'hR0).toNat : Int) == 35) = false := by simpa using h35
          cases hd : Lib.hasPrefix R.data.toList [45, 45] with
          | true =>
            by_cases hz : R.size = 2
            · have hz' : ((R.size : Int) == 2) = true := by rw [hz]; rfl
              by_cases he : 0 ≤ e
              ·   go_wp2_with (first
                    | (go_at_call 25; refine (isSpace_any _ _).mono ?_; rintro e w' ⟨rfl, hw'⟩; obtain rfl := hw'.symm)
                    | (go_at_call 26; refine (Try.strings_HasPrefix _ _ _).mono ?_; rintro e w' ⟨rfl, hw'⟩; obtain rfl := hw'.symm)
                    | (go_at_call 27; refine (cIB _).mono ?_; rintro e w' ⟨rfl, hw'⟩; obtain rfl := hw'.symm)
                    | (go_at_call 29; refine (cIX _ (by exact hmr)).mono ?_; rintro e w' ⟨rfl, hw'⟩; obtain rfl := hw'.symm))
                  go_roundg (gk - 1)
                  case measure => omega
                  case rel => exact ⟨p + (e + 1).toNat, c, by omega, by have := HpR.out; omega, by have := HpR.out; omega, lexAt ((hLr.drewN _).pos _) (by omega), (hO.drewN _).store 1 _, HMV.out _ _ (fun h => by obtain ⟨_, h, _⟩ := h; obtain ⟨h, _⟩ := h hd; omega)⟩
              ·   go_wp2_with (first
                    | (go_at_call 25; refine (isSpace_any _ _).mono ?_; rintro e w' ⟨rfl, hw'⟩; obtain rfl := hw'.symm)
                    | (go_at_call 26; refine (Try.strings_HasPrefix _ _ _).mono ?_; rintro e w' ⟨rfl, hw'⟩; obtain rfl := hw'.symm)
                    | (go_at_call 27; refine (cIB _).mono ?_; rintro e w' ⟨rfl, hw'⟩; obtain rfl := hw'.symm)
                    | (go_at_call 29; refine (cIX _ (by exact hmr)).mono ?_; rintro e w' ⟨rfl, hw'⟩; obtain rfl := hw'.symm))
                  go_roundg (gk - 1)
                  case measure => omega
                  case rel => exact ⟨t.size, c, by omega, by have := HpR.out; omega, by have := HpR.out; omega, lexAt ((hLr.drewN _).pos _) (by omega), (hO.drewN _).store 1 _, HMV.out _ _ (fun h => by obtain ⟨_, h, _⟩ := h; obtain ⟨h, _⟩ := h hd; omega)⟩
            · have hz' : ((R.size : Int) == 2) = false := beq_eq_false_iff_ne.2 (by omega)
              have hsz2 : 2 < R.size := by have := prefix2_size R _ _ hd; omega
              cases hs2 : spB ((R[2]'hsz2).toNat : Int) with
              | true =>
                by_cases he : 0 ≤ e
                ·   go_wp2_with (first
                      | (go_at_call 25; refine (isSpace_any _ _).mono ?_; rintro e w' ⟨rfl, hw'⟩; obtain rfl := hw'.symm)
                      | (go_at_call 26; refine (Try.strings_HasPrefix _ _ _).mono ?_; rintro e w' ⟨rfl, hw'⟩; obtain rfl := hw'.symm)
                      | (go_at_call 27; refine (cIB _).mono ?_; rintro e w' ⟨rfl, hw'⟩; obtain rfl := hw'.symm)
                      | (go_at_call 29; refine (cIX _ (by exact hmr)).mono ?_; rintro e w' ⟨rfl, hw'⟩; obtain rfl := hw'.symm))
                    go_roundg (gk - 1)
                    case measure => omega
                    case rel => exact ⟨p + (e + 1).toNat, c, by omega, by have := HpR.out; omega, by have := HpR.out; omega, lexAt ((hLr.drewN _).pos _) (by omega), (hO.drewN _).store 1 _, HMV.out _ _ (fun h => by obtain ⟨_, h, _⟩ := h; obtain ⟨_, h⟩ := h hd; rw [hs2] at h; cases h)⟩
                ·   go_wp2_with (first
                      | (go_at_call 25; refine (isSpace_any _ _).mono ?_; rintro e w' ⟨rfl, hw'⟩; obtain rfl := hw'.symm)
                      | (go_at_call 26; refine (Try.strings_HasPrefix _ _ _).mono ?_; rintro e w' ⟨rfl, hw'⟩; obtain rfl := hw'.symm)
                      | (go_at_call 27; refine (cIB _).mono ?_; rintro e w' ⟨rfl, hw'⟩; obtain rfl := hw'.symm)
                      | (go_at_call 29; refine (cIX _ (by exact hmr)).mono ?_; rintro e w' ⟨rfl, hw'⟩; obtain rfl := hw'.symm))
                    go_roundg (gk - 1)
                    case measure => omega
                    case rel => exact ⟨t.size, c, by omega, by have := HpR.out; omega, by have := HpR.out; omega, lexAt ((hLr.drewN _).pos _) (by omega), (hO.drewN _).store 1 _, HMV.out _ _ (fun h => by obtain ⟨_, h, _⟩ := h; obtain ⟨_, h⟩ := h hd; rw [hs2] at h; cases h)⟩
              | false =>
                have h4 := dash_no _ [42] 47 (by decide) hd
                have h5 := dash_no _ [47] 42 (by decide) hd
                have h3a := longer_no _ [33] h4
                have h3b := longer_no _ [77, 33] h4
                cases c with
                | false =>
                  go_wp2_with (first
                    | (go_at_call 25; refine (isSpace_any _ _).mono ?_; rintro e w' ⟨rfl, hw'⟩; obtain rfl := hw'.symm)
                    | (go_at_call 26; refine (Try.strings_HasPrefix _ _ _).mono ?_; rintro e w' ⟨rfl, hw'⟩; obtain rfl := hw'.symm)
                    | (go_at_call 27; refine (cIB _).mono ?_; rintro e w' ⟨rfl, hw'⟩; obtain rfl := hw'.symm)
                    | (go_at_call 29; refine (cIX _ (by exact hmr)).mono ?_; rintro e w' ⟨rfl, hw'⟩; obtain rfl := hw'.symm))
                  go_end0
                  refine ⟨rfl, p, false, h1, h2, hLr, hO.drewN _, fun _ => ?_, fun h => ?_⟩
                  · rw [hR]
                    exact ⟨⟨hR0, hsp', h35⟩, (fun _ => ⟨hsz2, hs2⟩), h4, (fun h => by cases h)⟩
                  · rcases HST.out with h' | h'
                    · exact h'
                    · exact absurd h h' 
                | true =>
                  go_wp2_with (first
                    | (go_at_call 25; refine (isSpace_any _ _).mono ?_; rintro e w' ⟨rfl, hw'⟩; obtain rfl := hw'.symm)
                    | (go_at_call 26; refine (Try.strings_HasPrefix _ _ _).mono ?_; rintro e w' ⟨rfl, hw'⟩; obtain rfl := hw'.symm)
                    | (go_at_call 27; refine (cIB _).mono ?_; rintro e w' ⟨rfl, hw'⟩; obtain rfl := hw'.symm)
                    | (go_at_call 29; refine (cIX _ (by exact hmr)).mono ?_; rintro e w' ⟨rfl, hw'⟩; obtain rfl := hw'.symm))
                  go_end0
                  refine ⟨rfl, p, true, h1, h2, hLr, hO.drewN _, fun _ => ?_, fun h => ?_⟩
                  · rw [hR]
                    exact ⟨⟨hR0, hsp', h35⟩, (fun _ => ⟨hsz2, hs2⟩), h4, (fun _ => h5)⟩
                  · rcases HST.out with h' | h'
                    · exact h'
                    · exact absurd h h' 
          | false =>
            cases h4 : Lib.hasPrefix R.data.toList [47, 42] with
            | true =>
              cases h3 : (Lib.hasPrefix R.data.toList [47, 42, 33] || Lib.hasPrefix R.data.toList [47, 42, 77, 33]) with
              | true =>
                have hnst : ¬ StopAt R c := fun h => by
                  obtain ⟨_, _, h, _⟩ := h
                  rw [h4] at h
                  cases h
                obtain ⟨b, hb2, cB⟩ : ∃ b : Nat, b + 1 ≤ R.size ∧ ∀ W, Calls Try.prog 27 #[.string R, .int .u8 33] W fun e' w' => e' = .returned (.int .i64 b) ∧ w' = W := by
                  cases h3a : Lib.hasPrefix R.data.toList [47, 42, 33] with
                  | true =>
                    obtain ⟨z1, z2⟩ := bang3 _ h3a
                    rw [← Lib.size_eq] at z2
                    refine ⟨2, by omega, fun W => ?_⟩
                    have h := Try.strings_IndexByte R 33 W
                    have e33 : Lib.indexByte R.data.toList (33 : Int).toNat.toUInt8 = 2 := z1
                    rw [e33] at h
                    exact h
                  | false =>
                    rw [h3a, Bool.false_or] at h3
                    obtain ⟨z1, z2⟩ := bang4 _ h3
                    rw [← Lib.size_eq] at z2
                    refine ⟨3, by omega, fun W => ?_⟩
                    have h := Try.strings_IndexByte R 33 W
                    have e33 : Lib.indexByte R.data.toList (33 : Int).toNat.toUInt8 = 3 := z1
                    rw [e33] at h
                    exact h
                have hpb : p + (b + 1) ≤ t.size := by have := HpR.out; omega
                clear HST cIX cIB hx1 hx2 he1 he2 h4
                go_upto_region 9 with (first
                  | (go_at_call 25; refine (isSpace_any _ _).mono ?_; rintro e w' ⟨rfl, hw'⟩; obtain rfl := hw'.symm)
                  | (go_at_call 26; refine (Try.strings_HasPrefix _ _ _).mono ?_; rintro e w' ⟨rfl, hw'⟩; obtain rfl := hw'.symm))
                go_cut [74] (fun s wx => s = .bool true ∧ ∃ n, wx = wr.drewN n)
                case first =>
                  cases h3a : Lib.hasPrefix R.data.toList [47, 42, 33] with
                  | true =>
                    go_wp2_with (go_at_call 26; refine (Try.strings_HasPrefix _ _ _).mono ?_; rintro e w' ⟨rfl, hw'⟩; obtain rfl := hw'.symm)
                    go_meet
                    exact ⟨rfl, _, rfl⟩
                  | false =>
                    rw [h3a, Bool.false_or] at h3
                    go_wp2_with (go_at_call 26; refine (Try.strings_HasPrefix _ _ _).mono ?_; rintro e w' ⟨rfl, hw'⟩; obtain rfl := hw'.symm)
                    go_meet
                    exact ⟨rfl, _, rfl⟩
                case rest =>
                  obtain ⟨rfl, n, rfl⟩ := hcut
                  clear h3 hsp' h35 hd
                  go_wp2
                  refine wp_region_still_tail 10 (by kernel_rfl) (by kernel_rfl) ?_
                  simp only [List.take_succ_cons, List.take_zero, List.drop_succ_cons, List.drop_zero]
                  change wpStill Try.prog _ (wr.drewN n).drew _ _ _
                  repeat still_step
                  still_call (cB _)
                  repeat still_step
                  refine wpStill_nil ?_
                  change wpList Try.prog _ _ _ _ (wr.drewN n).drew
                  go_wp2
                  have hLc := (hLr.drewN (n + 1)).pos ((p : Int) + ((b : Int) + 1))
                  have hOc := (hO.drewN (n + 1)).store 1 (.int .i64 ((p : Int) + ((b : Int) + 1)))
                  obtain ⟨W2, hW2⟩ : ∃ W2, (wr.drewN (n + 1)).setCell ⟨B, 1, none⟩ (.int .i64 ((p : Int) + ((b : Int) + 1))) = W2 := ⟨_, rfl⟩
                  rw [hW2] at hLc hOc ⊢
                  clear hW2 c0 c1 c4 f1 f4 hLr hO hmr cB
                  have c0 : W2.cell? ⟨B, 0, none⟩ = some (.string t) := hLc.cell 0
                  have c1 : W2.cell? ⟨B, 1, none⟩ = some (.int .i64 ((p : Int) + ((b : Int) + 1))) := hLc.cell 1
                  have c4 : W2.cell? ⟨B, 4, none⟩ = some (.bool c) := hLc.cell 4
                  have f1 := hLc.free 1
                  have f4 := hLc.free 4
                  obtain ⟨S, hS⟩ : ∃ S, t.extract ((p : Int) + ((b : Int) + 1)).toNat t.size = S := ⟨_, rfl⟩
                  have hSs : S.size = t.size - (p + (b + 1)) := by rw [← hS, show ((p : Int) + ((b : Int) + 1)).toNat = p + (b + 1) from by omega]; simp
                  have hv := verLen_le S
                  have cV := versionLen_any S
                  obtain ⟨v, hvv⟩ : ∃ v, verLen S = v := ⟨_, rfl⟩
                  rw [hvv] at hv
                  simp only [hvv] at cV
                  have hi1 : (0 : Int) ≤ (p : Int) + ((b : Int) + 1) := by omega
                  have hi2 : (p : Int) + ((b : Int) + 1) ≤ (t.size : Int) := by omega
                  have hvt : p + (b + 1) + v ≤ t.size := by omega
                  clear hSs hR hvv
                  refine wp_region_still_tail 17 (by kernel_rfl) (by kernel_rfl) ?_
                  simp only [List.take_succ_cons, List.take_zero, List.drop_succ_cons, List.drop_zero]
                  change wpStill Try.prog _ W2.drew _ _ _
                  repeat still_step
                  still_call (cV _)
                  repeat still_step
                  refine wpStill_nil ?_
                  change wpList Try.prog _ _ _ _ W2.drew
                  go_wp2
                  go_roundg (gk - 1)
                  case measure => omega
                  case rel => exact ⟨p + (b + 1) + v, true, by omega, by omega, by omega, lexAt ((hLc.drew.pos _).code true) (by omega), (hOc.drew.store 1 _).store 4 _, HMV.out _ _ hnst⟩
              | false =>
                rw [Bool.or_eq_false_iff] at h3
                obtain ⟨h3a, h3b⟩ := h3
                obtain hx2 := hx2 (prefix2_size R _ _ h4)
                have hR2 := prefix2_size R _ _ h4
                by_cases hx : 0 ≤ x
                ·   go_wp2_with (first
                      | (go_at_call 25; refine (isSpace_any _ _).mono ?_; rintro e w' ⟨rfl, hw'⟩; obtain rfl := hw'.symm)
                      | (go_at_call 26; refine (Try.strings_HasPrefix _ _ _).mono ?_; rintro e w' ⟨rfl, hw'⟩; obtain rfl := hw'.symm)
                      | (go_at_call 27; refine (cIB _).mono ?_; rintro e w' ⟨rfl, hw'⟩; obtain rfl := hw'.symm)
                      | (go_at_call 29; refine (cIX _ (by exact hmr)).mono ?_; rintro e w' ⟨rfl, hw'⟩; obtain rfl := hw'.symm))
                    go_roundg (gk - 1)
                    case measure => omega
                    case rel => exact ⟨p + (x + 4).toNat, c, by omega, by have := HpR.out; omega, by have := HpR.out; omega, lexAt ((hLr.drewN _).pos _) (by omega), (hO.drewN _).store 1 _, HMV.out _ _ (fun h => by obtain ⟨_, _, h, _⟩ := h; rw [h4] at h; cases h)⟩
                ·   go_wp2_with (first
                      | (go_at_call 25; refine (isSpace_any _ _).mono ?_; rintro e w' ⟨rfl, hw'⟩; obtain rfl := hw'.symm)
                      | (go_at_call 26; refine (Try.strings_HasPrefix _ _ _).mono ?_; rintro e w' ⟨rfl, hw'⟩; obtain rfl := hw'.symm)
                      | (go_at_call 27; refine (cIB _).mono ?_; rintro e w' ⟨rfl, hw'⟩; obtain rfl := hw'.symm)
                      | (go_at_call 29; refine (cIX _ (by exact hmr)).mono ?_; rintro e w' ⟨rfl, hw'⟩; obtain rfl := hw'.symm))
                    go_roundg (gk - 1)
                    case measure => omega
                    case rel => exact ⟨t.size, c, by omega, by have := HpR.out; omega, by have := HpR.out; omega, lexAt ((hLr.drewN _).pos _) (by omega), (hO.drewN _).store 1 _, HMV.out _ _ (fun h => by obtain ⟨_, _, h, _⟩ := h; rw [h4] at h; cases h)⟩
            | false =>
              have h3a := longer_no _ [33] h4
              have h3b := longer_no _ [77, 33] h4
              cases c with
              | false =>
                go_wp2_with (first
                  | (go_at_call 25; refine (isSpace_any _ _).mono ?_; rintro e w' ⟨rfl, hw'⟩; obtain rfl := hw'.symm)
                  | (go_at_call 26; refine (Try.strings_HasPrefix _ _ _).mono ?_; rintro e w' ⟨rfl, hw'⟩; obtain rfl := hw'.symm)
                  | (go_at_call 27; refine (cIB _).mono ?_; rintro e w' ⟨rfl, hw'⟩; obtain rfl := hw'.symm)
                  | (go_at_call 29; refine (cIX _ (by exact hmr)).mono ?_; rintro e w' ⟨rfl, hw'⟩; obtain rfl := hw'.symm))
                go_end0
                refine ⟨rfl, p, false, h1, h2, hLr, hO.drewN _, fun _ => ?_, fun h => ?_⟩
                · rw [hR]
                  exact ⟨⟨hR0, hsp', h35⟩, (fun h => by rw [hd] at h; cases h), h4, (fun h => by cases h)⟩
                · rcases HST.out with h' | h'
                  · exact h'
                  · exact absurd h h' 
              | true =>
                cases h5 : Lib.hasPrefix R.data.toList [42, 47] with
                | true =>
                  have hR2 := prefix2_size R _ _ h5
                  go_wp2_with (first
                    | (go_at_call 25; refine (isSpace_any _ _).mono ?_; rintro e w' ⟨rfl, hw'⟩; obtain rfl := hw'.symm)
                    | (go_at_call 26; refine (Try.strings_HasPrefix _ _ _).mono ?_; rintro e w' ⟨rfl, hw'⟩; obtain rfl := hw'.symm)
                    | (go_at_call 27; refine (cIB _).mono ?_; rintro e w' ⟨rfl, hw'⟩; obtain rfl := hw'.symm)
                    | (go_at_call 29; refine (cIX _ (by exact hmr)).mono ?_; rintro e w' ⟨rfl, hw'⟩; obtain rfl := hw'.symm))
                  go_roundg (gk - 1)
                  case measure => omega
                  case rel => exact ⟨p + 2, false, by omega, by have := HpR.out; omega, by have := HpR.out; omega, lexAt (((hLr.drewN _).pos _).code false) (by omega), ((hO.drewN _).store 1 _).store 4 _, HMV.out _ _ (fun h => by obtain ⟨_, _, _, h⟩ := h; have := h rfl; rw [h5] at this; cases this)⟩
                | false =>
                  go_wp2_with (first
                    | (go_at_call 25; refine (isSpace_any _ _).mono ?_; rintro e w' ⟨rfl, hw'⟩; obtain rfl := hw'.symm)
                    | (go_at_call 26; refine (Try.strings_HasPrefix _ _ _).mono ?_; rintro e w' ⟨rfl, hw'⟩; obtain rfl := hw'.symm)
                    | (go_at_call 27; refine (cIB _).mono ?_; rintro e w' ⟨rfl, hw'⟩; obtain rfl := hw'.symm)
                    | (go_at_call 29; refine (cIX _ (by exact hmr)).mono ?_; rintro e w' ⟨rfl, hw'⟩; obtain rfl := hw'.symm))
                  go_end0
                  refine ⟨rfl, p, true, h1, h2, hLr, hO.drewN _, fun _ => ?_, fun h => ?_⟩
                  · rw [hR]
                    exact ⟨⟨hR0, hsp', h35⟩, (fun h => by rw [hd] at h; cases h), h4, (fun _ => h5)⟩
                  · rcases HST.out with h' | h'
                    · exact h'
                    · exact absurd h h' 
    · go_wp2
      go_quiet (fail)
      go_wp2
      go_end0
      refine ⟨rfl, p, c, h1, h2, hLr, hO.drewN _, fun h => absurd h hlt, fun h => ?_⟩
      rcases hst with h' | h'
      · exact h'
      · exact absurd h h'

end Go.Proofs.Qxb6001402a
