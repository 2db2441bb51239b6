import Derived.Test.Qxb6001402aB2
import Derived.Laws.BytesArg
namespace Go.Proofs.Qxb6001402a
open Go.RowKit

/-- What one byte of the text becomes. -/
def quoteB (q : Int) (e : Bool) (x : Int) : List Int := if x = q then [q, q] else if x = 92 ∧ e = true then [92, 92] else [x]
/-- The quote and the first bytes of the text. -/
def qL (q : Int) (e : Bool) (d : Nat → Int) : Nat → List Int
  | 0 => [q]
  | i + 1 => qL q e d i ++ quoteB q e (d i)

theorem quoteB_len (q : Int) (e : Bool) (x : Int) : 1 ≤ (quoteB q e x).length ∧ (quoteB q e x).length ≤ 2 := by
  unfold quoteB
  (repeat' split) <;> simp

theorem qL_len (q : Int) (e : Bool) (d : Nat → Int) : ∀ i, 1 ≤ (qL q e d i).length ∧ (qL q e d i).length ≤ 2 * i + 1
  | 0 => by simp [qL]
  | i + 1 => by
    have h1 := qL_len q e d i
    have h2 := quoteB_len q e (d i)
    simp only [qL, List.length_append]
    omega

theorem qL_pre (q : Int) (e : Bool) (d : Nat → Int) (n : Nat) : ∀ k i, i + k = n → ∃ r, qL q e d n = qL q e d i ++ r
  | 0, i, h => by
    have : i = n := by omega
    subst this
    exact ⟨[], by simp⟩
  | k + 1, i, h => by
    obtain ⟨r, hr⟩ := qL_pre q e d n k (i + 1) (by omega)
    exact ⟨quoteB q e (d i) ++ r, by rw [hr]; simp [qL]⟩

theorem quoteB_bd (q : Int) (e : Bool) (x : Int) (hq : 0 ≤ q ∧ q ≤ 255) (hx : 0 ≤ x ∧ x ≤ 255) : ∀ c ∈ quoteB q e x, 0 ≤ c ∧ c ≤ 255 := by
  intro c hc
  unfold quoteB at hc
  split at hc
  · simp at hc; omega
  · split at hc
    · simp at hc; omega
    · simp at hc; omega

theorem qL_bd (q : Int) (e : Bool) (d : Nat → Int) (hq : 0 ≤ q ∧ q ≤ 255) : ∀ n, (∀ i, i < n → 0 ≤ d i ∧ d i ≤ 255) → ∀ c ∈ qL q e d n, 0 ≤ c ∧ c ≤ 255
  | 0, _, c, hc => by simp [qL] at hc; omega
  | n + 1, hd, c, hc => by
    simp only [qL, List.mem_append] at hc
    rcases hc with hc | hc
    · exact qL_bd q e d hq n (fun i hi => hd i (by omega)) c hc
    · exact quoteB_bd q e (d n) hq (hd n (by omega)) c hc

/-- The whole. -/
def fullL (q : Int) (e : Bool) (d : Nat → Int) (n : Nat) : List Int := qL q e d n ++ [q]

theorem size_nums (L : List Int) : (strOfNums L).size = L.length := by simp [strOfNums, ByteArray.size]

theorem bytes_at (L : List Int) (hL : ∀ c ∈ L, 0 ≤ c ∧ c ≤ 255) (i : Nat) (h : i < (strOfNums L).size) : (((strOfNums L)[i]'h).toNat : Int) = L.getD i 0 := by
  have hs : (strOfNums L).size = L.length := size_nums L
  have hi : i < L.length := by omega
  have hb := hL (L[i]) (List.getElem_mem hi)
  have e : (strOfNums L)[i]'h = UInt8.ofNat (L[i]).toNat := by
    have e1 : (strOfNums L)[i]'h = ((L.map fun n => UInt8.ofNat n.toNat).toArray)[i]'(by simpa using hi) := rfl
    rw [e1]
    simp
  rw [e]
  simp [List.getD, hi]
  omega

theorem getD_mid (A B : List Int) (j : Nat) : (A ++ B).getD (A.length + j) 0 = B.getD j 0 := by
  rw [List.getD, List.getD, List.getElem?_append_right (by omega)]
  simp

theorem full_quoted (q : Int) (e : Bool) (d : Nat → Int) (n : Nat) : Quoted (strOfNums (fullL q e d n)) (fun i => (fullL q e d n).getD i 0) q e d n (fun i => (qL q e d i).length) where
  o0 := rfl
  on := by rw [size_nums]; simp [fullL]
  q0 := by
    obtain ⟨r, hr⟩ := qL_pre q e d n n 0 (by omega)
    show (fullL q e d n).getD 0 0 = q
    rw [fullL, hr]
    simp [qL]
  qn := by
    have := getD_mid (qL q e d n) [q] 0
    exact this
  step := by
    intro i hi
    obtain ⟨r, hr⟩ := qL_pre q e d n (n - (i + 1)) (i + 1) (by omega)
    have hF : fullL q e d n = qL q e d i ++ (quoteB q e (d i) ++ (r ++ [q])) := by
      rw [fullL, hr]
      simp [qL]
    have h0 : (fullL q e d n).getD ((qL q e d i).length) 0 = (quoteB q e (d i) ++ (r ++ [q])).getD 0 0 := by
      rw [hF]; exact getD_mid _ _ 0
    have h1 : (fullL q e d n).getD ((qL q e d i).length + 1) 0 = (quoteB q e (d i) ++ (r ++ [q])).getD 1 0 := by
      rw [hF]; exact getD_mid _ _ 1
    have hl : (qL q e d (i + 1)).length = (qL q e d i).length + (quoteB q e (d i)).length := by simp [qL]
    show (_ ∧ (fullL q e d n).getD ((qL q e d i).length) 0 = _ ∧ (fullL q e d n).getD ((qL q e d i).length + 1) 0 = _ ∧ (qL q e d (i + 1)).length = _) ∨ (_ ∧ _ ∧ _ ∧ (fullL q e d n).getD ((qL q e d i).length) 0 = _ ∧ (fullL q e d n).getD ((qL q e d i).length + 1) 0 = _ ∧ (qL q e d (i + 1)).length = _) ∨ (_ ∧ _ ∧ (fullL q e d n).getD ((qL q e d i).length) 0 = _ ∧ (qL q e d (i + 1)).length = _)
    rw [h0, h1, hl]
    by_cases a : d i = q
    · left
      simp [quoteB, a]
    · right
      by_cases b : d i = 92 ∧ e = true
      · left
        obtain ⟨b1, b2⟩ := b
        subst b2
        rw [b1] at a ⊢
        simp [quoteB, a]
      · right
        refine ⟨a, fun h => ?_, ?_, ?_⟩
        · cases he : e
          · rfl
          · exact (b ⟨h, he⟩).elim
        · simp [quoteB, a, b]
        · simp [quoteB, a, b]

end Go.Proofs.Qxb6001402a
