import Derived.Test.Qxb6000773aW3
import Derived.Laws.BytesArg
namespace Go.Proofs.Qxb6000773a

/-! THE PLAIN LAW: the literal that the law builds, as a list of numbers. -/
def preL (k : Int) (up : Bool) : List Int := if k = 0 then [] else [48, letterOf k up]
def sepB (k : Int) (sep : Nat → Bool) (i : Nat) : Bool := sep i && (decide (0 < i) || decide (0 < k))
def stepL (k : Int) (sep : Nat → Bool) (d : Nat → Int) (i : Nat) : List Int := if sepB k sep i = true then [95, digitI k (d i)] else [digitI k (d i)]
def litL (k : Int) (up : Bool) (sep : Nat → Bool) (d : Nat → Int) : Nat → List Int
  | 0 => preL k up
  | i + 1 => litL k up sep d i ++ stepL k sep d i

/-- A digit of the literal's class. -/
def dg (k c : Int) : Prop := (k = 1 → hexB c = true) ∧ (k ≠ 1 → decB c = true)
theorem dg_digitI (k b : Int) : dg k (digitI k b) := ⟨fun h => by subst h; exact digitI_hex b, fun h => digitI_dec k b h⟩
theorem dg_ne (k c : Int) (h : dg k c) : c ≠ 95 := by
  intro e
  subst e
  by_cases h1 : k = 1
  · exact absurd (h.1 h1) (by decide)
  · exact absurd (h.2 h1) (by decide)
theorem dg_bd (k c : Int) (h : dg k c) : 0 ≤ c ∧ c ≤ 255 := by
  by_cases h1 : k = 1
  · have := h.1 h1
    simp [hexB] at this
    omega
  · have := h.2 h1
    simp [decB] at this
    omega

def FineL (k : Int) (L : List Int) : Prop :=
  ∀ i : Nat, L[i]? = some 95 → ((0 < i ∧ ∃ c, L[i - 1]? = some c ∧ dg k c) ∨ (0 < k ∧ i = 2)) ∧ ∃ c, L[i + 1]? = some c ∧ dg k c

theorem app_some {L T : List Int} {i : Nat} {c : Int} (h : L[i]? = some c) : (L ++ T)[i]? = some c := by
  have := (List.getElem?_eq_some_iff.1 h).1
  rw [List.getElem?_append_left this]
  exact h

theorem fine_lift {k : Int} {L T : List Int} {i : Nat} (h : ((0 < i ∧ ∃ c, L[i - 1]? = some c ∧ dg k c) ∨ (0 < k ∧ i = 2)) ∧ ∃ c, L[i + 1]? = some c ∧ dg k c) :
    ((0 < i ∧ ∃ c, (L ++ T)[i - 1]? = some c ∧ dg k c) ∨ (0 < k ∧ i = 2)) ∧ ∃ c, (L ++ T)[i + 1]? = some c ∧ dg k c := by
  obtain ⟨h1, c, h2, h3⟩ := h
  refine ⟨?_, c, app_some h2, h3⟩
  rcases h1 with ⟨a, c', b, d⟩ | h1
  · exact .inl ⟨a, c', app_some b, d⟩
  · exact .inr h1

theorem fine_snoc (k : Int) (L : List Int) (x : Int) (h : FineL k L) (hx : dg k x) : FineL k (L ++ [x]) := by
  intro i hi
  by_cases hl : i < L.length
  · rw [List.getElem?_append_left hl] at hi
    exact fine_lift (h i hi)
  · exfalso
    rw [List.getElem?_append_right (by omega)] at hi
    have hz : i - L.length = 0 := by
      have := (List.getElem?_eq_some_iff.1 hi).1
      simp at this
      omega
    rw [hz] at hi
    simp at hi
    exact dg_ne k x hx hi

theorem fine_sep (k : Int) (L : List Int) (x : Int) (h : FineL k L) (hx : dg k x) (hb : (0 < L.length ∧ ∃ c, L[L.length - 1]? = some c ∧ dg k c) ∨ (0 < k ∧ L.length = 2)) : FineL k (L ++ [95, x]) := by
  intro i hi
  by_cases hl : i < L.length
  · rw [List.getElem?_append_left hl] at hi
    exact fine_lift (h i hi)
  · by_cases he : i = L.length
    · subst he
      refine ⟨?_, x, ?_, hx⟩
      · rcases hb with ⟨a, c, b, d⟩ | hb
        · exact .inl ⟨a, c, app_some b, d⟩
        · exact .inr hb
      · rw [List.getElem?_append_right (by omega), show L.length + 1 - L.length = 1 from by omega]
        rfl
    · exfalso
      rw [List.getElem?_append_right (by omega)] at hi
      have hz : i - L.length = 1 := by
        have := (List.getElem?_eq_some_iff.1 hi).1
        simp at this
        omega
      rw [hz] at hi
      simp at hi
      exact dg_ne k x hx hi

theorem last_some (L : List Int) (x : Int) : (L ++ [x])[(L ++ [x]).length - 1]? = some x := by
  simp

theorem fine_all (k : Int) (up : Bool) (sep : Nat → Bool) (d : Nat → Int) : ∀ m, FineL k (litL k up sep d m) ∧ (0 < m → 0 < (litL k up sep d m).length ∧ ∃ c, (litL k up sep d m)[(litL k up sep d m).length - 1]? = some c ∧ dg k c)
  | 0 => by
    refine ⟨?_, fun h => absurd h (Nat.lt_irrefl _)⟩
    intro i hi
    exfalso
    unfold litL preL at hi
    by_cases h0 : k = 0
    · simp [h0] at hi
    · rw [if_neg h0] at hi
      match i, hi with
      | 0, hi => simp at hi
      | 1, hi =>
        simp [letterOf] at hi
        revert hi
        (repeat' split) <;> decide
      | i + 2, hi => simp at hi
  | m + 1 => by
    obtain ⟨ih1, ih2⟩ := fine_all k up sep d m
    have hx := dg_digitI k (d m)
    unfold litL stepL
    by_cases hs : sepB k sep m = true
    · rw [if_pos hs]
      refine ⟨fine_sep k _ _ ih1 hx ?_, fun _ => ⟨by simp, digitI k (d m), ?_, hx⟩⟩
      · by_cases h0 : 0 < m
        · exact .inl (ih2 h0)
        · have hm : m = 0 := by omega
          subst hm
          simp [sepB] at hs
          have hk := hs.2
          refine .inr ⟨hk, ?_⟩
          unfold litL preL
          rw [if_neg (by omega)]
          rfl
      · have := last_some (litL k up sep d m ++ [95]) (digitI k (d m))
        rw [List.append_assoc] at this
        exact this
    · rw [if_neg hs]
      exact ⟨fine_snoc k _ _ ih1 hx, fun _ => ⟨by simp, digitI k (d m), last_some _ _, hx⟩⟩

theorem letter_bd (k : Int) (up : Bool) : 0 ≤ letterOf k up ∧ letterOf k up ≤ 255 := by
  unfold letterOf
  (repeat' split) <;> omega

theorem bd_all (k : Int) (up : Bool) (sep : Nat → Bool) (d : Nat → Int) : ∀ m, ∀ c ∈ litL k up sep d m, 0 ≤ c ∧ c ≤ 255
  | 0, c, hc => by
    unfold litL preL at hc
    by_cases h0 : k = 0
    · simp [h0] at hc
    · rw [if_neg h0] at hc
      simp only [List.mem_cons, List.not_mem_nil, or_false] at hc
      rcases hc with rfl | rfl
      · omega
      · exact letter_bd k up
  | m + 1, c, hc => by
    unfold litL stepL at hc
    rcases List.mem_append.1 hc with hc | hc
    · exact bd_all k up sep d m c hc
    · have hx := dg_bd k _ (dg_digitI k (d m))
      by_cases hs : sepB k sep m = true
      · rw [if_pos hs] at hc
        simp only [List.mem_cons, List.not_mem_nil, or_false] at hc
        rcases hc with rfl | rfl
        · omega
        · exact hx
      · rw [if_neg hs] at hc
        simp only [List.mem_cons, List.not_mem_nil, or_false] at hc
        subst hc
        exact hx

theorem len_all (k : Int) (up : Bool) (sep : Nat → Bool) (d : Nat → Int) : ∀ m, m ≤ (litL k up sep d m).length ∧ (litL k up sep d m).length ≤ 2 * m + 2
  | 0 => by
    unfold litL preL
    split <;> simp
  | m + 1 => by
    have ih := len_all k up sep d m
    unfold litL stepL
    split <;> simp <;> omega

theorem mono_all (k : Int) (up : Bool) (sep : Nat → Bool) (d : Nat → Int) {i : Nat} {c : Int} (h : (preL k up)[i]? = some c) : ∀ m, (litL k up sep d m)[i]? = some c
  | 0 => h
  | m + 1 => app_some (mono_all k up sep d h m)

theorem plain_zero (up : Bool) (sep : Nat → Bool) (d : Nat → Int) : ∀ m, ∀ c ∈ litL 0 up sep d m, c = 95 ∨ decB c = true
  | 0, c, hc => by simp [litL, preL] at hc
  | m + 1, c, hc => by
    unfold litL stepL at hc
    rcases List.mem_append.1 hc with hc | hc
    · exact plain_zero up sep d m c hc
    · have hx := (dg_digitI 0 (d m)).2 (by decide)
      by_cases hs : sepB 0 sep m = true
      · rw [if_pos hs] at hc
        simp only [List.mem_cons, List.not_mem_nil, or_false] at hc
        rcases hc with rfl | rfl
        · exact .inl rfl
        · exact .inr hx
      · rw [if_neg hs] at hc
        simp only [List.mem_cons, List.not_mem_nil, or_false] at hc
        subst hc
        exact .inr hx

theorem no_prefix_fin : ∀ x : Fin 256, (x.val = 95 ∨ (48 ≤ x.val ∧ x.val ≤ 57)) → decide (0 ≤ Lib.indexByte [120, 88, 111, 79, 98, 66] (UInt8.ofNat x.val)) = false := by decide +kernel
theorem no_prefix (c : Int) (h : c = 95 ∨ decB c = true) : decide (0 ≤ Lib.indexByte [120, 88, 111, 79, 98, 66] (UInt8.ofNat c.toNat)) = false := by
  simp only [decB, decide_eq_true_eq] at h
  exact no_prefix_fin ⟨c.toNat, by omega⟩ (by simp only; omega)

theorem yes_prefix (k : Int) (up : Bool) (h1 : 1 ≤ k) (h2 : k ≤ 3) : decide (0 ≤ Lib.indexByte [120, 88, 111, 79, 98, 66] (UInt8.ofNat (letterOf k up).toNat)) = true ∧ (low (letterOf k up) == 120) = decide (k = 1) := by
  have : k = 1 ∨ k = 2 ∨ k = 3 := by omega
  rcases this with rfl | rfl | rfl <;> cases up <;> decide

theorem getD_of {L : List Int} {i : Nat} {c : Int} (h : L[i]? = some c) : L.getD i 0 = c := by simp [List.getD, h]
theorem some_of {L : List Int} {i : Nat} (h : i < L.length) : L[i]? = some (L.getD i 0) := by simp [List.getD, h]

theorem fine_of (k : Int) (L : List Int) (hp hx : Bool) (h : FineL k L) (hd : ∀ c, dg k c → dgB hx c = true) (hk : 0 < k → hp = true) : Fine (fun i => L.getD i 0) L.length hp hx := by
  intro i hi h95
  have h95' : L.getD i 0 = 95 := h95
  obtain ⟨h1, c, h2, h3⟩ := h i (by rw [some_of hi, h95'])
  have hl := (List.getElem?_eq_some_iff.1 h2).1
  refine ⟨?_, hl, ?_⟩
  · rcases h1 with ⟨a, c', b, e⟩ | ⟨a, b⟩
    · refine .inl ⟨a, ?_⟩
      show dgB hx (L.getD (i - 1) 0) = true
      rw [getD_of b]
      exact hd c' e
    · exact .inr ⟨hk a, b⟩
  · show dgB hx (L.getD (i + 1) 0) = true
    rw [getD_of h2]
    exact hd c h3

theorem lit_ok (k : Int) (h0 : 0 ≤ k) (h3 : k ≤ 3) (up : Bool) (sep : Nat → Bool) (d : Nat → Int) (m : Nat) :
    ∃ hp hx, Head (fun i => (litL k up sep d m).getD i 0) (litL k up sep d m).length hp hx ∧ Fine (fun i => (litL k up sep d m).getD i 0) (litL k up sep d m).length hp hx := by
  have hF := (fine_all k up sep d m).1
  have hlen := len_all k up sep d m
  by_cases hk : k = 0
  · subst hk
    refine ⟨false, false, ?_, fine_of 0 _ _ _ hF (fun c hc => by simp [dgB, hc.2 (by decide)]) (fun h => absurd h (by decide))⟩
    by_cases hn : (litL 0 up sep d m).length ≤ 2
    · exact .inl ⟨hn, rfl, rfl⟩
    · have hz := plain_zero up sep d m
      have h1 : decide (0 ≤ Lib.indexByte [120, 88, 111, 79, 98, 66] (UInt8.ofNat ((litL 0 up sep d m).getD 1 0).toNat)) = false :=
        no_prefix _ (hz _ (List.mem_of_getElem? (some_of (L := litL 0 up sep d m) (i := 1) (by omega))))
      cases hb : ((litL 0 up sep d m).getD 0 0 == 48) with
      | false => exact .inr (.inl ⟨by omega, hb, rfl, rfl⟩)
      | true => exact .inr (.inr (.inl ⟨by omega, hb, h1, rfl, rfl⟩))
  · have hpre : preL k up = [48, letterOf k up] := by unfold preL; rw [if_neg hk]
    by_cases hm : m = 0
    · subst hm
      have hl2 : (litL k up sep d 0).length = 2 := by
        show (preL k up).length = 2
        rw [hpre]
        rfl
      refine ⟨false, false, .inl ⟨by omega, rfl, rfl⟩, ?_⟩
      intro i hi h95
      exfalso
      have h95' : (litL k up sep d 0).getD i 0 = 95 := h95
      obtain ⟨h1, c, h2, _⟩ := hF i (by rw [some_of hi, h95'])
      have hl := (List.getElem?_eq_some_iff.1 h2).1
      rcases h1 with ⟨a, _⟩ | ⟨_, b⟩ <;> omega
    · have g0 := getD_of (mono_all k up sep d (i := 0) (c := 48) (by rw [hpre]; rfl) m)
      have g1 := getD_of (mono_all k up sep d (i := 1) (c := letterOf k up) (by rw [hpre]; rfl) m)
      obtain ⟨y1, y2⟩ := yes_prefix k up (by omega) h3
      have hl3 : 2 < (litL k up sep d m).length := by
        obtain ⟨j, rfl⟩ : ∃ j, m = j + 1 := ⟨m - 1, by omega⟩
        have h2 : (litL k up sep d j)[1]? = some (letterOf k up) := mono_all k up sep d (by rw [hpre]; rfl) j
        have := (List.getElem?_eq_some_iff.1 h2).1
        unfold litL stepL
        split <;> simp <;> omega
      refine ⟨true, decide (k = 1), .inr (.inr (.inr ⟨hl3, ?_, ?_, rfl, ?_⟩)), fine_of k _ _ _ hF ?_ (fun _ => rfl)⟩
      · simp only [g0]
        rfl
      · simp only [g1]
        exact y1
      · simp only [g1]
        exact y2
      · intro c hc
        by_cases h1 : k = 1
        · simp [dgB, h1, hc.1 h1]
        · simp [dgB, hc.2 h1]

/-- The literal's bytes. -/
theorem bytes_at (L : List Int) (hL : ∀ c ∈ L, 0 ≤ c ∧ c ≤ 255) (i : Nat) (h : i < (strOfNums L).size) : (((strOfNums L)[i]'h).toNat : Int) = L.getD i 0 := by
  have hs : (strOfNums L).size = L.length := by simp [strOfNums, ByteArray.size]
  have hi : i < L.length := by omega
  have hb := hL L[i] (List.getElem_mem hi)
  have e : (strOfNums L)[i]'h = UInt8.ofNat (L[i]).toNat := by
    have e1 : (strOfNums L)[i]'h = ((L.map fun n => UInt8.ofNat n.toNat).toArray)[i]'(by simpa using hi) := rfl
    rw [e1, List.getElem_toArray, List.getElem_map]
  rw [e]
  simp [List.getD, hi]
  omega

theorem size_lit (L : List Int) : (strOfNums L).size = L.length := by simp [strOfNums, ByteArray.size]

end Go.Proofs.Qxb6000773a
