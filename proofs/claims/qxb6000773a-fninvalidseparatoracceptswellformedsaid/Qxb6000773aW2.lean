import Derived.Test.Qxb6000773aW1
import Derived.Laws.OwnMore
import Derived.OwnWalk
namespace Go.Proofs.Qxb6000773a
open Go.RowKit

theorem Try.info4 : (Try.prog.info? 4).map (fun i => (i.zero, i.size, i.bytes)) = some (some (.bool false), 1, 1) := by kernel_rfl
theorem Try.info5 : (Try.prog.info? 5).map (fun i => (i.zero, i.size, i.bytes)) = some (some (.int .u8 0), 1, 1) := by kernel_rfl

theorem q38 (w : World) (a : Option Addr) (n c n' c' : Nat) : (binOp .eql 38 (.slice a n c) (.slice none n' c')).run Try.prog w = .ok (.bool a.isNone) w := Lib.run_eql_slice_nil w _ _ a n c n' c' Try.underlying38

theorem clone_nil (w : World) :
    Calls Try.prog 23 #[.slice none 0 0] w fun e w' => e = .returned (.slice none 0 0) ∧ w' = w := by
  have hq := q38
  go_enter Try.func23, Try.ntmps23
  go_wp2
  go_ret
  exact ⟨rfl, rfl⟩

/-- The first k of the bools, copied; those behind still false. -/
def copied (B : Nat → Bool) (n k : Nat) : List Value := (List.range n).map fun i => .bool (if i < k then B i else false)

theorem copied_zero (B : Nat → Bool) (n : Nat) : copied B n 0 = List.replicate n (.bool false) := by
  apply List.ext_getElem?
  intro j
  by_cases hj : j < n
  · simp [copied, hj]
  · simp [copied, hj]

theorem copied_at (B : Nat → Bool) (n k j : Nat) (hj : j < n) : (copied B n k)[j]? = some (.bool (if j < k then B j else false)) := by
  simp [copied, hj]

theorem copied_set (B : Nat → Bool) (n k : Nat) : (copied B n k).set k (.bool (B k)) = copied B n (k + 1) := by
  apply List.ext_getElem?
  intro j
  by_cases hj : j < n
  · by_cases h : k = j
    · subst h
      simp [copied, hj]
    · rw [List.getElem?_set_ne h, copied_at B n k j hj, copied_at B n (k + 1) j hj]
      have e : (j < k) = (j < k + 1) := by rw [eq_iff_iff]; omega
      simp only [e]
  · simp [copied, hj]

set_option maxHeartbeats 1000000 in
theorem clone_pos (b off n c : Nat) (B : Nat → Bool) (w : World) (hn : n ≤ 65536) (hlt : b < w.heap.size) (hc : ∀ i, i < n → w.cell? ⟨b, off + i, none⟩ = some (.bool (B i))) :
    Calls Try.prog 23 #[.slice (some ⟨b, off, none⟩) n c] w fun e w' => e = .returned (.slice (some ⟨w.heap.size, 0, none⟩) n n) ∧ w'.ownsRow w.heap.size 4 1 (.slice (some ⟨w.heap.size, 0, none⟩) n n) n (copied B n n) ∧ Below w.heap.size w w' := by
  have hq := q38
  obtain ⟨i0, hi, hz0, hz1, hz2⟩ := info_parts Try.info4
  go_enter Try.func23, Try.ntmps23
  go_wp2_with (at_make; refine wpList_make_full _ rfl _ _ 38 rfl w.heap.size 4 i0 (.bool false) 1 Try.underlying38 hi hz0 hz1 _ _ _ _ n rfl rfl (by omega) (by omega) ?b2 ?b3 (Nat.le_refl _) ?_)
  case b2 => rw [hz2]; omega
  case b3 => unfold maxLen; omega
  intro w0 hown0 hgrow0
  rw [toList_madeCells_one, ← copied_zero B n] at hown0
  have hB0 : Below w.heap.size w w0 := (Below.refl _ _).grown hgrow0 (Nat.le_refl _) (fun k h => by cases h)
  clear hgrow0 hq hi hz0 hz1 hz2
  go_wp2
  go_loopw [4] (fun i wr => ∃ k : Nat, k ≤ n ∧ i = .int .i64 k ∧ wr.ownsRow w.heap.size 4 1 (.slice (some ⟨w.heap.size, 0, none⟩) n n) n (copied B n k) ∧ Below w.heap.size w wr) (fun i _ => n - (intOf i).toNat)
  case atStart => exact ⟨0, Nat.zero_le _, rfl, hown0, hB0⟩
  case round =>
    obtain ⟨k, hk, rfl, hown, hB⟩ := hrel
    by_cases hlt2 : k < n
    · have hc1 : wr.cell? ⟨b, off + k, none⟩ = some (.bool (B k)) := (hB.cell (by exact hlt)).trans (hc k hlt2)
      have hc2 := (hown.cellAt k (by omega)).trans (copied_at B n k k hlt2)
      have hf2 := hown.frozenAt k
      go_wp2
      go_roundw
      case rel =>
        obtain ⟨s1, s2⟩ := hown.stored k (.bool (B k))
        rw [copied_set] at s1
        exact ⟨k + 1, by omega, by go_num, s1, hB.grown s2 hB.size (fun j h => by cases h; exact Nat.le_refl _)⟩
      case measure => simp [intOf]; omega
    · go_wp2
      go_ret
      have : k = n := by omega
      subst this
      exact ⟨rfl, hown, hB⟩

set_option maxHeartbeats 1000000 in
theorem clone_zero (a : Addr) (c : Nat) (w : World) :
    Calls Try.prog 23 #[.slice (some a) 0 c] w fun e w' => e = .returned (.slice (some ⟨w.heap.size, 0, none⟩) 0 0) ∧ Below w.heap.size w w' := by
  have hq := q38
  obtain ⟨i0, hi, hz0, hz1, hz2⟩ := info_parts Try.info4
  go_enter Try.func23, Try.ntmps23
  go_wp2_with (at_make; refine wpList_make_full _ rfl _ _ 38 rfl w.heap.size 4 i0 (.bool false) 1 Try.underlying38 hi hz0 hz1 _ _ _ _ 0 rfl rfl (by omega) (by omega) ?b2 ?b3 (Nat.le_refl _) ?_)
  case b2 => rw [hz2]; omega
  case b3 => unfold maxLen; omega
  intro w0 hown0 hgrow0
  have hB0 : Below w.heap.size w w0 := (Below.refl _ _).grown hgrow0 (Nat.le_refl _) (fun k h => by cases h)
  clear hgrow0 hq hi hz0 hz1 hz2 hown0
  go_wp2
  go_loopw [4] (fun i wr => i = .int .i64 0 ∧ wr = w0) (fun _ _ => 0)
  case atStart => exact ⟨rfl, rfl⟩
  case round =>
    obtain ⟨rfl, rfl⟩ := hrel
    go_wp2
    go_ret
    exact ⟨rfl, hB0⟩

/-- What the slice of marks is when it comes in. -/
def MarksIn (a0 : Option Addr) (n c : Nat) (B : Nat → Bool) (w : World) : Prop :=
  (a0 = none ∧ n = 0 ∧ c = 0) ∨ ∃ a, a0 = some a ∧ ∀ i, i < n → a.block < w.heap.size ∧ w.cell? (a.add i) = some (.bool (B i))

/-- What its copy is good for. -/
def MarksAt (ao : Option Addr) (n : Nat) (B : Nat → Bool) (w : World) : Prop :=
  ∀ i, i < n → ∃ g, ao = some ⟨g, 0, none⟩ ∧ g < w.heap.size ∧ w.cell? ⟨g, i, none⟩ = some (.bool (B i))

theorem add_none (b off i : Nat) : (⟨b, off, none⟩ : Addr).add i = ⟨b, off + i, none⟩ := by
  unfold Addr.add
  split <;> simp_all

theorem clone_any (a0 : Option Addr) (n c : Nat) (B : Nat → Bool) (w : World) (hn : n ≤ 65536) (h : MarksIn a0 n c B w) :
    Calls Try.prog 23 #[.slice a0 n c] w fun e w' => ∃ ao, e = .returned (.slice ao n n) ∧ MarksAt ao n B w' ∧ Below w.heap.size w w' := by
  rcases h with ⟨rfl, rfl, rfl⟩ | ⟨a, rfl, hc⟩
  · refine (clone_nil w).mono ?_
    rintro e w' ⟨rfl, rfl⟩
    exact ⟨none, rfl, fun i hi => absurd hi (Nat.not_lt_zero _), Below.refl _ _⟩
  · by_cases hz : n = 0
    · subst hz
      refine (clone_zero a c w).mono ?_
      rintro e w' ⟨rfl, hb⟩
      exact ⟨_, rfl, fun i hi => absurd hi (Nat.not_lt_zero _), hb⟩
    · obtain ⟨b, off, spot⟩ := a
      have hspot : spot = none := by simpa [Addr.add] using World.cell?_spot (hc 0 (by omega)).2
      subst hspot
      refine (clone_pos b off n c B w hn (hc 0 (by omega)).1 (fun i hi => by have := (hc i hi).2; rw [add_none] at this; exact this)).mono ?_
      rintro e w' ⟨rfl, hown, hb⟩
      have hl := hown.lt w.heap.size rfl
      refine ⟨_, rfl, fun i hi => ⟨w.heap.size, rfl, hl.2, ?_⟩, hb⟩
      rw [hown.cellAt i (by omega), copied_at B n n i hi, if_pos hi]

end Go.Proofs.Qxb6000773a
