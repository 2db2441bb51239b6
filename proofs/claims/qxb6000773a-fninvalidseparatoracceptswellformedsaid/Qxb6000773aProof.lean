import Derived.Test.Qxb6000773aW4
import Derived.ProofKit
import Derived.ShutString
import Derived.Deep.Grids
namespace Go.Proofs.Qxb6000773a.fnInvalidSeparatorAcceptsWellFormed
open Go.ChangeShapes Go.WideShapes Go.ChangeAt Go.RowKit
open Go.ChangeMaps (open_string shut_string)

theorem own : ownKnob Try.prog.godebug = none := by kernel_rfl
theorem laidOut : laidOutB Try.prog = true := by kernel_rfl
theorem cells4 : Try.prog.cellsOf 4 = 1 := by kernel_rfl

/-- The walk, for every byte, every string, every slice of marks. -/
theorem walk (a0 : Int) (w0 : (Lit.int .u8 a0).wf = true) (s : ByteArray) (ws : s.size ≤ maxLen) (a : Option Addr) (n c : Nat) (hn : n ≤ maxLen) (B : Nat → Bool) (w : World) (hM : MarksIn a n c B w) :
    Calls Try.prog 8 #[.int .u8 a0, .string s, .slice a n c] w fun e w' => e = .returned (.bool true) ∧ Below w.heap.size w w' := by
  have hb : 0 ≤ a0 ∧ a0 ≤ 255 := by
    simp [Lit.wf, IntKind.min, IntKind.max, IntKind.signed, IntKind.bits] at w0
    omega
  unfold maxLen at ws hn
  by_cases h : 65536 < s.size ∨ 65536 < n
  · exact law_long a0 s a n c w ws hn h
  · by_cases hk : a0 % 4 = 0
    · exact law_zero a0 (a0 % 4) _ s a n c B w hb.1 hb.2 (by omega) (by omega) rfl (by omega) (by omega) rfl hM
    · exact law_pos a0 (a0 % 4) _ s a n c B w hb.1 hb.2 (by omega) (by omega) rfl (by omega) (by omega) rfl hM

set_option maxRecDepth 100000 in
theorem lifted (os : Os) (started : os.Started) (H : Type) (enc : TypeId × Value → H) :
    ReturnsInHanded {} Try.checked os 8 .any (Rows.fnInvalidSeparatorAcceptsWellFormedSpec.pre6 enc Try.prog Try.f8 Rows.fnInvalidSeparatorAcceptsWellFormedRow.domain false) (Rows.fnInvalidSeparatorAcceptsWellFormedSpec.post enc Try.prog Try.f8 false true false false) := by
  refine returnsInHanded_of_change (C := Try.checked) own started (by kernel_rfl) Try.func8
    (ChangeSpec.witness6 (enc := enc) (C := Try.checked) false ⟨#[], #[.int .u8 0, .string ⟨#[]⟩, .slice none 0 0], []⟩ 8 (by kernel_rfl) (by kernel_rfl) (by kernel_rfl) (by kernel_rfl)) ?_
  intro W base args ds gs before hval0 hW hcnd _
  have hval : ∀ (j : Nat) t v, Try.f8.params[j]? = some t → args[j]? = some v → Value.okWide Try.prog W .any base t v := hval0
  have hW' := hW
  obtain ⟨p, q, hA0, hV, rfl, hfz, hnd⟩ := hW
  have hA : DataW.TrodAll enc Try.prog W 0 (fun _ => true) true Try.f8.params.toList args.toList ds p := hA0
  rw [Try.params8] at hA hval
  obtain ⟨v0, vs0, d0, ds0, p0, q0, hargs, rfl, rfl, h0, r0⟩ := trodAll_cons hA
  obtain ⟨v1, vs1, d1, ds1, p1, q1, rfl, rfl, rfl, h1, r1⟩ := trodAll_cons r0
  obtain ⟨v2, vs2, d2, ds2, p2, q2, rfl, rfl, rfl, h2, r2⟩ := trodAll_cons r1
  obtain ⟨rfl, rfl, rfl⟩ := trodAll_nil r2
  obtain rfl : args = #[v0, v1, v2] := by cases args; simp_all
  obtain ⟨rfl, rfl⟩ := trodVars_none hV
  obtain ⟨a0, rfl, rfl, rfl, w0⟩ := open_int Try.underlying5 (hval 0 5 v0 rfl rfl) h0
  obtain ⟨s, rfl, rfl, rfl, ws⟩ := open_string Try.underlying9 (hval 1 9 v1 rfl rfl) h1
  obtain ⟨ao, n, c, rfl⟩ := okWide_slice Try.underlying38 (hval 2 38 v2 rfl rfl)
  have h2k := h2
  obtain ⟨fuel, hf⟩ := h2
  clear hA0 hval0
  simp only [List.append_nil, List.nil_append] at hW'
  have hlt : ∀ x ∈ p2, x.block < W.heap.size := fun x hx => by simpa using hW'.lt x hx
  obtain ⟨B, hn, hM⟩ : ∃ B, n ≤ maxLen ∧ MarksIn ao n c B W := by
    rcases Go.Deep.open_bools Try.underlying38 Try.underlying4 cells4 hf with ⟨hcs, hx⟩ | ⟨a, len', cap', B, hcs, _, hl, hm, hx, hcell⟩
    · simp [Value.cells] at hcs
      obtain ⟨rfl, rfl, rfl⟩ := hcs
      exact ⟨fun _ => false, Nat.zero_le _, .inl ⟨rfl, rfl, rfl⟩⟩
    · simp [Value.cells] at hcs
      obtain ⟨rfl, rfl, rfl⟩ := hcs
      simp only [Prod.mk.injEq] at hx
      obtain ⟨_, rfl⟩ := hx
      refine ⟨B, Nat.le_trans hl hm, .inr ⟨a, rfl, fun i hi => ⟨?_, hcell i (by omega)⟩⟩⟩
      exact hlt (.cell a.block a.off) (MemPlace.mem_row.2 ⟨0, by omega, by simp⟩)
  refine (walk a0 w0 s ws ao n c hn B W hM).mono fun e W' ⟨he, hb⟩ => ?_
  subst he
  exact ⟨_, rfl, _, _, _, [], p2, [], hW', trodAll_mk1 (shut_bool Try.underlying4 _), trodAll_mk3 (shut_int Try.underlying5 w0) (shut_string Try.underlying9 ws) (Below.trod laidOut (by kernel_rfl) (of_decide_eq_true (by kernel_rfl)) h2k hb hlt), rfl, hb.frame _, fun h => by cases h⟩

theorem over : Rows.fnInvalidSeparatorAcceptsWellFormedRow.holds Try.pinned (OpenSpec.ofChange Rows.fnInvalidSeparatorAcceptsWellFormedSpec) :=
  OpenClaim.holds_of_wide 8 Try.f8 rfl rfl rfl rfl rfl rfl rfl ⟨rfl, rfl, rfl, rfl, rfl⟩ rfl rfl rfl rfl rfl (by kernel_rfl) Try.func8 (by kernel_rfl)
    (of_decide_eq_true (by kernel_rfl)) (by unfold Func.isWrapper; first | (rw [if_pos (by decide +kernel)]; kernel_rfl) | (rw [if_neg (by decide +kernel)]; exact ⟨rfl, rfl⟩))
    (fun os started H enc _ => lifted os started H enc)

/-- THE STATEMENT. -/
theorem proved : Rows.FnInvalidSeparatorAcceptsWellFormedSaid :=
  over
end Go.Proofs.Qxb6000773a.fnInvalidSeparatorAcceptsWellFormed
