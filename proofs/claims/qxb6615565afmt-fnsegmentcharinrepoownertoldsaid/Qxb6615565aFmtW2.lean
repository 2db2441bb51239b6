import Derived.Test.Qxb6615565aFmtW1
import Derived.Deep.LoopGhost
import Derived.Lib.OthersKept
import Derived.WalkSmall
import Derived.Lib.Strings
namespace Go.Proofs.Qxb6615565aFmt
open Go.RowKit

theorem width_pos (s : ByteArray) (pos : Nat) (h : pos < s.size) : 1 ≤ (Utf8.decode s pos).2 := by
  by_cases ha : (s[pos]'h).toNat < 128
  · rw [decode_ascii s pos h ha]
    exact Nat.le_refl _
  · exact (decode_high s pos h (by omega)).2

def allFrom (s : ByteArray) : Nat → Nat → Bool
  | 0, _ => true
  | f + 1, pos => if pos < s.size then (if segB ((Utf8.decode s pos).1 : Int) = true then allFrom s f (pos + (Utf8.decode s pos).2) else false) else true

theorem allFrom_end (s : ByteArray) (f pos : Nat) (h : ¬ pos < s.size) : allFrom s f pos = true := by cases f <;> simp [allFrom, h]

set_option maxHeartbeats 1000000 in
set_option maxRecDepth 1000000 in
theorem allOf_from (s : ByteArray) (w : World) :
    Calls Tryf.prog 21 #[.string s, .func (.func 17) #[] #[]] w fun e w' => e = .returned (.bool (allFrom s s.size 0)) ∧ Below w.heap.size w w' := by
  go_enter Tryf.func21, Tryf.ntmps21
  go_wp2
  go_loopg [] s.size (fun gf wx => ∃ pos : Nat, wx.heap[w.heap.size]? = some (.stringIter s pos) ∧ Below w.heap.size w wx ∧ allFrom s gf pos = allFrom s s.size 0 ∧ s.size ≤ pos + gf)
  case atStart => exact ⟨0, World.iter_heap w s 0, (Below.refl _ w).alloc (Nat.le_refl _) _, rfl, by omega⟩
  case round =>
    obtain ⟨pos, hit, hbw, hleft, hfu⟩ := hrel
    by_cases hps : pos < s.size
    · obtain ⟨g', rfl⟩ : ∃ g', gk = g' + 1 := ⟨gk - 1, by omega⟩
      have hnx : ∀ ty, (Instr.next (.pointer (some ⟨w.heap.size, 0, none⟩)) true ty).run Tryf.prog wr = _ := fun ty => Lib.run_next_any_at wr w.heap.size s pos ty hit hps
      have hwd := width_pos s pos hps
      obtain ⟨R, hR⟩ : ∃ R, (Utf8.decode s pos).1 = R := ⟨_, rfl⟩
      obtain ⟨K, hK⟩ : ∃ K, (Utf8.decode s pos).2 = K := ⟨_, rfl⟩
      simp only [allFrom, hps, if_true, hR, hK] at hleft
      rw [hR, hK] at hnx
      rw [hK] at hwd
      have hit2 := Lib.iterAt_heap wr w.heap.size s pos (pos + K) hit
      have hbw2 := Lib.below_iterAt hbw (k := w.heap.size) (Nat.le_refl _) s (pos + K)
      obtain ⟨W, hWd⟩ : ∃ W, wr.iterAt w.heap.size s (pos + K) = W := ⟨_, rfl⟩
      rw [hWd] at hnx hit2 hbw2
      have cS : Calls Tryf.prog 17 #[.int .i32 (R : Int)] W _ := isSegmentChar_any (R : Int) W
      cases hsp : segB (R : Int) <;> rw [hsp] at cS <;> simp only [hsp, if_true, Bool.false_eq_true, if_false] at hleft
      · have HL : Hid (false = allFrom s s.size 0) := hleft
        clear hleft hR hK hWd
        go_wp2_with (go_at_call 17; refine cS.mono ?_; rintro e W' ⟨rfl, rfl⟩)
        go_ret
        exact ⟨ret_bool HL.out, hbw2⟩
      · have HL : Hid (allFrom s g' (pos + K) = allFrom s s.size 0) := hleft
        clear hleft hR hK hWd
        go_wp2_with (go_at_call 17; refine cS.mono ?_; rintro e W' ⟨rfl, rfl⟩)
        go_roundg g'
        case measure => omega
        case rel => exact ⟨pos + K, hit2, hbw2, HL.out, by omega⟩
    · have hnx : ∀ ty, (Instr.next (.pointer (some ⟨w.heap.size, 0, none⟩)) true ty).run Tryf.prog wr = _ := fun ty => Lib.run_next_end_at wr w.heap.size s pos ty hit hps
      rw [allFrom_end s gk pos hps] at hleft
      have HL : Hid (true = allFrom s s.size 0) := hleft
      clear hleft
      go_wp2
      go_ret
      exact ⟨ret_bool HL.out, hbw⟩

/-- Every byte is one of the segment's characters. -/
def segAll (l : List UInt8) : Bool := l.all fun b => segB (b.toNat : Int)

theorem segB_high (r : Nat) (h : 128 ≤ r) : segB (r : Int) = false := by
  unfold segB
  simp
  omega

theorem allFrom_eq (s : ByteArray) : ∀ (f pos : Nat), s.size ≤ pos + f → allFrom s f pos = segAll (s.data.toList.drop pos)
  | 0, pos, h => by
    rw [List.drop_eq_nil_of_le (by rw [← Lib.size_eq]; omega)]
    rfl
  | f + 1, pos, h => by
    by_cases hp : pos < s.size
    · have hl : pos < s.data.toList.length := by rw [← Lib.size_eq]; exact hp
      have hg : s.data.toList[pos] = s[pos] := rfl
      rw [List.drop_eq_getElem_cons hl, hg]
      simp only [allFrom, hp, if_true, segAll, List.all_cons]
      by_cases ha : (s[pos]'hp).toNat < 128
      · rw [decode_ascii s pos hp ha]
        have ih := allFrom_eq s f (pos + 1) (by omega)
        simp only [ih]
        cases segB (s[pos].toNat : Int) <;> simp [segAll]
      · rw [segB_high _ (decode_high s pos hp (by omega)).1, segB_high _ (by omega)]
        simp
    · rw [allFrom_end s _ pos hp, List.drop_eq_nil_of_le (by rw [← Lib.size_eq]; omega)]
      rfl

theorem allOf_any (s : ByteArray) (w : World) :
    Calls Tryf.prog 21 #[.string s, .func (.func 17) #[] #[]] w fun e w' => e = .returned (.bool (segAll s.data.toList)) ∧ Below w.heap.size w w' := by
  have h := allOf_from s w
  rw [allFrom_eq s s.size 0 (by omega), List.drop_zero] at h
  exact h

end Go.Proofs.Qxb6615565aFmt
