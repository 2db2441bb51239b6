import Derived.Test.Qxb6615565aFmtW2
import Derived.Lib.Index
import Derived.Lib.Bytealg
import Derived.Lib.CutLaws
namespace Go.Proofs.Qxb6615565aFmt

/-! THE PLAIN LAW: what string(r) is made of, and what Cut and Contains make of it. -/

theorem enc_low (r : Int) (h0 : 0 ≤ r) (h1 : r < 128) : Utf8.encode r = ⟨#[UInt8.ofNat r.toNat]⟩ := by
  have hv : Utf8.valid r = true := by simp [Utf8.valid]; omega
  unfold Utf8.encode
  simp only [hv, if_true]
  rw [if_pos (by omega)]

theorem byte_ge (n : Nat) (h0 : 128 ≤ n) (h1 : n < 256) : 128 ≤ (UInt8.ofNat n).toNat := by
  simp
  omega

theorem enc_high (r : Int) (h : r < 0 ∨ 128 ≤ r) : ∃ l : List UInt8, Utf8.encode r = ⟨l.toArray⟩ ∧ l.isEmpty = false ∧ l.length ≤ 4 ∧ ∀ b ∈ l, 128 ≤ b.toNat := by
  obtain ⟨c, hc, h0, h1⟩ : ∃ c : Nat, (if Utf8.valid r then r.toNat else Utf8.runeError) = c ∧ 128 ≤ c ∧ c ≤ 0x10FFFF := by
    refine ⟨_, rfl, ?_⟩
    by_cases hv : Utf8.valid r = true
    · rw [if_pos hv]
      simp [Utf8.valid] at hv
      omega
    · rw [if_neg hv]
      decide
  unfold Utf8.encode
  simp only [hc]
  rw [if_neg (by omega)]
  by_cases c2 : c < 0x800
  · rw [if_pos c2]
    refine ⟨_, rfl, rfl, by simp, ?_⟩
    intro b hb
    simp only [List.mem_cons, List.not_mem_nil, or_false] at hb
    rcases hb with rfl | rfl <;> exact byte_ge _ (by omega) (by omega)
  · rw [if_neg c2]
    by_cases c3 : c < 0x10000
    · rw [if_pos c3]
      refine ⟨_, rfl, rfl, by simp, ?_⟩
      intro b hb
      simp only [List.mem_cons, List.not_mem_nil, or_false] at hb
      rcases hb with rfl | rfl | rfl <;> exact byte_ge _ (by omega) (by omega)
    · rw [if_neg c3]
      refine ⟨_, rfl, rfl, by simp, ?_⟩
      intro b hb
      simp only [List.mem_cons, List.not_mem_nil, or_false] at hb
      rcases hb with rfl | rfl | rfl | rfl <;> exact byte_ge _ (by omega) (by omega)

theorem toNat_byte (r : Int) (h0 : 0 ≤ r) (h1 : r < 128) : (((UInt8.ofNat r.toNat).toNat : Nat) : Int) = r := by
  simp
  omega

/-- All that the laws need of string(r). -/
theorem enc_all (r : Int) : ∃ l : List UInt8, Utf8.encode r = ⟨l.toArray⟩ ∧ l.isEmpty = false ∧ l.length ≤ 4 ∧ segAll l = segB r ∧ (r ≠ 47 → ∀ b ∈ l, b ≠ 47) ∧ (r = 47 → l = [47]) := by
  by_cases h : 0 ≤ r ∧ r < 128
  · refine ⟨[UInt8.ofNat r.toNat], enc_low r h.1 h.2, rfl, by simp, ?_, ?_, ?_⟩
    · simp only [segAll, List.all_cons, List.all_nil, Bool.and_true]
      rw [toNat_byte r h.1 h.2]
    · intro hn b hb
      simp only [List.mem_cons, List.not_mem_nil, or_false] at hb
      subst hb
      intro he
      have := toNat_byte r h.1 h.2
      rw [he] at this
      apply hn
      rw [← this]
      rfl
    · intro he
      subst he
      rfl
  · obtain ⟨l, he, hl, h4, hb⟩ := enc_high r (by omega)
    refine ⟨l, he, hl, h4, ?_, ?_, by omega⟩
    · have hs : segB r = false := by
        unfold segB
        simp
        omega
      rw [hs]
      cases l with
      | nil => cases hl
      | cons b t =>
        simp only [segAll, List.all_cons]
        rw [segB_high _ (hb b (by simp))]
        rfl
    · intro _ b hbm he
      have := hb b hbm
      rw [he] at this
      exact absurd this (by decide)

theorem index_one : ∀ (l : List UInt8), (∀ b ∈ l, b ≠ 47) → ∀ t, Lib.index (l ++ 47 :: t) [47] = l.length
  | [], _, t => by simp [Lib.index]
  | b :: l, h, t => by
    have hb : (47 == b) = false := by
      have := h b (by simp)
      exact beq_eq_false_iff_ne.2 (fun e => this e.symm)
    have ih := index_one l (fun c hc => h c (by simp [hc])) t
    simp only [List.cons_append, Lib.index, List.isPrefixOf, hb, Bool.false_and, ih]
    have : ((l.length : Int) == -1) = false := beq_eq_false_iff_ne.2 (by omega)
    simp [this]

theorem cut_one (l t : List UInt8) (h : ∀ b ∈ l, b ≠ 47) : Lib.cut (l ++ 47 :: t) [47] = (l, t, true) := by
  unfold Lib.cut
  rw [index_one l h t, if_pos (by omega)]
  simp

theorem indexByte_no : ∀ (l : List UInt8), (∀ b ∈ l, b ≠ 47) → Lib.indexByte l 47 = -1
  | [], _ => rfl
  | b :: l, h => by
    have hb : (b == 47) = false := by
      have := h b (by simp)
      simpa using this
    have ih := indexByte_no l (fun c hc => h c (by simp [hc]))
    simp [Lib.indexByte, hb, ih]

end Go.Proofs.Qxb6615565aFmt
