import Derived.Test.Qxb6001402aW6
import Derived.Test.Qxb6001402aB4
namespace Go.Proofs.Qxb6001402a
open Go.RowKit

theorem noPre (R : ByteArray) (h : 0 < R.size) (a b : UInt8) (hne : (R[0]'h) ≠ a) : Lib.hasPrefix R.data.toList [a, b] = false := by
  obtain ⟨⟨l⟩⟩ := R
  match l, h, hne with
  | x :: r, h, hne =>
    have e : ¬ a = x := fun e => hne e.symm
    simp [Lib.hasPrefix, List.isPrefixOf, e]

theorem stop_quote (R : ByteArray) (h : 0 < R.size) (q : Int) (hR : ((R[0]'h).toNat : Int) = q) (hq : q = 39 ∨ q = 34 ∨ q = 96) : StopAt R false := by
  have n45 : (R[0]'h) ≠ 45 := fun e => by rw [e] at hR; have : ((45 : UInt8).toNat : Int) = 45 := rfl; omega
  have n47 : (R[0]'h) ≠ 47 := fun e => by rw [e] at hR; have : ((47 : UInt8).toNat : Int) = 47 := rfl; omega
  refine ⟨⟨h, ?_, ?_⟩, fun hp => ?_, noPre R h 47 42 n47, fun hc => by cases hc⟩
  · rw [hR]; simp [spB]; omega
  · rw [hR]; simp; omega
  · rw [noPre R h 45 45 n45] at hp
    cases hp

theorem extract_all (T : ByteArray) : T.extract 0 T.size = T := by simp

set_option maxRecDepth 100000 in
theorem law8_main2 (s : ByteArray) (q : Int) (bs aq : Bool) (m : Int) (w : World) (hm : w.cell? ⟨0, 0, none⟩ = some (.int .i64 m)) (hs : s.size < 524288) (hq : q = 39 ∨ q = 34 ∨ q = 96) :
    Calls Try.prog 8 #[.string s, .int .u8 q, .bool bs, .bool aq] w fun e w' => e = .returned (.bool true) ∧ Below w.heap.size w w' := by
  obtain ⟨d, hd⟩ : ∃ d : Nat → Int, ∀ (i : Nat) (h : i < s.size), ((s[i]'h).toNat : Int) = d i := ⟨fun i => if h : i < s.size then ((s[i]'h).toNat : Int) else 0, fun i h => by simp only [h, dif_pos]⟩
  obtain ⟨E, hE⟩ : ∃ E, escOf q bs aq = E := ⟨_, rfl⟩
  have hdb : ∀ i, i < s.size → 0 ≤ d i ∧ d i ≤ 255 := fun i h => by
    have h1 := (s[i]'h).toNat_lt
    have h2 := hd i h
    omega
  have hbd : ∀ c ∈ fullL q E d s.size, 0 ≤ c ∧ c ≤ 255 := by
    intro c hc
    simp only [fullL, List.mem_append, List.mem_singleton] at hc
    rcases hc with hc | hc
    · exact qL_bd q E d (by omega) s.size hdb c hc
    · omega
  have hQ := full_quoted q E d s.size
  have hg := bytes_at (fullL q E d s.size) hbd
  have hlen := qL_len q E d s.size
  have hTs : (strOfNums (fullL q E d s.size)).size ≤ 1048576 := by rw [hQ.on]; omega
  have hT0 : 0 < (strOfNums (fullL q E d s.size)).size := by rw [hQ.on]; omega
  have hon := hQ.on
  obtain ⟨T, hT⟩ : ∃ T, strOfNums (fullL q E d s.size) = T := ⟨_, rfl⟩
  obtain ⟨g, hG⟩ : ∃ g : Nat → Int, (fun i => (fullL q E d s.size).getD i 0) = g := ⟨_, rfl⟩
  have hg' : ∀ (i : Nat) (h : i < T.size), ((T[i]'h).toNat : Int) = g i := by subst hT; subst hG; exact hg
  rw [hT, hG] at hQ
  rw [hT] at hTs hT0 hon
  clear hg
  have h0 : 0 < w.heap.size := (old_cell w (.cells #[] 0) m hm).1
  have hmW : ∀ W, Below w.heap.size w W → W.cell? ⟨0, 0, none⟩ = some (.int .i64 m) := fun W hb => (hb.cell (p := ⟨0, 0, none⟩) h0).trans hm
  have hq92 : q ≠ 92 := by omega
  have hg0 : g 0 = q := hQ.q0
  have hend : qEnd g T.size q E T.size (0 + 1) = T.size := hQ.ends hq92 s.size 0 T.size (by omega) (by rw [hQ.o0]; omega)
  refine law8_main s q bs aq E d T w hs hd hq ?_ hT (fun W hb => ?_) (fun W => ?_) (fun W hb => ?_)
  · subst hE
    refine ⟨fun h => ?_, fun h => ?_, fun h => ?_⟩
    · subst h; simp [escOf]
    · subst h; simp [escOf]
    · subst h; simp [escOf]
  · refine (zzNext_any T g hg' 0 bs aq false m W hTs (Nat.zero_le _) (hmW W hb)).mono ?_
    rintro e w' ⟨k, tok, esc, p, c, en, rfl, hb', _, _, _, a⟩
    have hst : StopAt (T.extract 0 T.size) false := by
      rw [extract_all]
      exact stop_quote T hT0 q ((hg' 0 hT0).trans hg0) hq
    have hiq : isQ (g 0) = true := by
      rw [hg0]
      simp [isQ]
      omega
    obtain ⟨rfl, rfl, rfl, a1, a2, a3⟩ := a hst hiq
    rw [hg0] at a1 a3
    rw [hE] at a1
    subst a1
    rw [hend] at a3
    subst a3
    rw [extract_all] at a2
    subst a2
    exact ⟨rfl, hb'⟩
  · exact zzUnquoted_any T E s W (unquoted_any T g hg' q E s d hd _ hQ hq92 hTs (by omega) W)
  · refine (zzNext_any T g hg' T.size bs aq false m W hTs (Nat.le_refl _) (hmW W hb)).mono ?_
    rintro e w' ⟨k, tok, esc, p, c, en, rfl, hb', a1, a2, a3, _⟩
    rcases a3 with ⟨rfl, rfl, rfl⟩ | ⟨_, _, p1, b1, b2, _⟩
    · exact ⟨_, _, _, _, rfl, hb'⟩
    · omega

end Go.Proofs.Qxb6001402a
