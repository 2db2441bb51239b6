import Derived.Test.Qxb6615565aFmtW3
import Derived.Test.Qxb6615565aFmtLaw
namespace Go.Proofs.Qxb6615565aFmt
open Go.RowKit Go.Extern.Stop Go.Stop Go.Extern

theorem cat3 (l : List UInt8) : ((⟨#[111, 47, 97]⟩ : ByteArray) ++ ⟨l.toArray⟩) = ⟨(111 :: 47 :: 97 :: l).toArray⟩ := by
  apply ByteArray.ext
  simp
theorem cat1 (l : List UInt8) : ((⟨#[97]⟩ : ByteArray) ++ ⟨l.toArray⟩) = ⟨(97 :: l).toArray⟩ := by
  apply ByteArray.ext
  simp

theorem catN (l : List UInt8) : ((⟨l.toArray⟩ : ByteArray) ++ ⟨#[47, 110]⟩) = ⟨(l ++ [47, 110]).toArray⟩ := by
  apply ByteArray.ext
  simp
theorem eq1 (l : List UInt8) : (97 :: l == ((⟨#[97]⟩ : ByteArray) ++ ⟨l.toArray⟩).toList) = true := by
  rw [cat1, ByteArray.toList_eq]
  simp

set_option maxHeartbeats 400000 in
theorem name_ok (r : Int) (l : List UInt8) (w : World) (hE : Utf8.encode r = ⟨l.toArray⟩) (h4 : l.length ≤ 4) (hr : segB r = true)
    (hp : Calls Tryf.prog 11 #[.string ⟨(111 :: 47 :: 97 :: l).toArray⟩, .string ⟨#[117]⟩] w fun e w' => e = .returned (.tuple #[.string ⟨[111].toArray⟩, .string ⟨(97 :: l).toArray⟩, .nilIface]) ∧ Below w.heap.size w w') :
    Calls Tryf.prog 5 #[.int .i32 r] w fun e w' => e = .returned (.bool true) ∧ Below w.heap.size w w' := by
  have hq := eq1 l
  go_enter Tryf.func5, Tryf.ntmps5
  go_wp2_with fail
  refine (zzSegRune_any _ _).mono ?_
  rintro e w1 ⟨rfl, rfl⟩
  go_wp2_with fail
  rw [cat3]
  refine hp.mono ?_
  clear hp
  rintro e w2 ⟨rfl, hb⟩
  go_wp2_with fail
  refine (zzIsSegmentChar_any _ _).mono ?_
  rintro e w3 ⟨rfl, rfl⟩
  go_wp2_with fail
  go_ret
  exact ⟨rfl, hb⟩

set_option maxHeartbeats 400000 in
theorem name_bad (r : Int) (l : List UInt8) (w : World) (hE : Utf8.encode r = ⟨l.toArray⟩) (h4 : l.length ≤ 4) (hr : segB r = false)
    (hp : Calls Tryf.prog 11 #[.string ⟨(111 :: 47 :: 97 :: l).toArray⟩, .string ⟨#[117]⟩] w (refused w)) :
    Calls Tryf.prog 5 #[.int .i32 r] w fun e w' => e = .returned (.bool true) ∧ Below w.heap.size w w' := by
  go_enter Tryf.func5, Tryf.ntmps5
  go_wp2_with fail
  refine (zzSegRune_any _ _).mono ?_
  rintro e w1 ⟨rfl, rfl⟩
  go_wp2_with fail
  rw [cat3]
  refine hp.mono ?_
  clear hp
  rintro e w2 ⟨a, rfl, hb⟩
  go_wp2_with fail
  refine (zzIsSegmentChar_any _ _).mono ?_
  rintro e w3 ⟨rfl, rfl⟩
  go_wp2_with fail
  go_ret
  exact ⟨rfl, hb⟩

set_option maxHeartbeats 400000 in
theorem owner_ok (r : Int) (l : List UInt8) (w : World) (hE : Utf8.encode r = ⟨l.toArray⟩) (h4 : l.length ≤ 4) (hr : segB r = true)
    (hp : Calls Tryf.prog 11 #[.string ⟨(l ++ [47, 110]).toArray⟩, .string ⟨#[117]⟩] w fun e w' => e = .returned (.tuple #[.string ⟨l.toArray⟩, .string ⟨[110].toArray⟩, .nilIface]) ∧ Below w.heap.size w w') :
    Calls Tryf.prog 6 #[.int .i32 r] w fun e w' => e = .returned (.bool true) ∧ Below w.heap.size w w' := by
  go_enter Tryf.func6, Tryf.ntmps6
  go_wp2_with fail
  refine (zzSegRune_any _ _).mono ?_
  rintro e w1 ⟨rfl, rfl⟩
  go_wp2_with fail
  rw [catN]
  refine hp.mono ?_
  clear hp
  rintro e w2 ⟨rfl, hb⟩
  go_wp2_with fail
  refine (zzIsSegmentChar_any _ _).mono ?_
  rintro e w3 ⟨rfl, rfl⟩
  go_wp2_with fail
  go_ret
  exact ⟨rfl, hb⟩

set_option maxHeartbeats 400000 in
theorem owner_bad (r : Int) (l : List UInt8) (w : World) (hE : Utf8.encode r = ⟨l.toArray⟩) (h4 : l.length ≤ 4) (hr : segB r = false)
    (hp : Calls Tryf.prog 11 #[.string ⟨(l ++ [47, 110]).toArray⟩, .string ⟨#[117]⟩] w (refused w)) :
    Calls Tryf.prog 6 #[.int .i32 r] w fun e w' => e = .returned (.bool true) ∧ Below w.heap.size w w' := by
  go_enter Tryf.func6, Tryf.ntmps6
  go_wp2_with fail
  refine (zzSegRune_any _ _).mono ?_
  rintro e w1 ⟨rfl, rfl⟩
  go_wp2_with fail
  rw [catN]
  refine hp.mono ?_
  clear hp
  rintro e w2 ⟨a, rfl, hb⟩
  go_wp2_with fail
  refine (zzIsSegmentChar_any _ _).mono ?_
  rintro e w3 ⟨rfl, rfl⟩
  go_wp2_with fail
  go_ret
  exact ⟨rfl, hb⟩

theorem size_list (l : List UInt8) : (⟨l.toArray⟩ : ByteArray).size = l.length := rfl

/-- FnSegmentCharInRepoName returns true at every rune. -/
theorem name_any (F : Interp) (r m : Int) (w : World) (hF : F.answers w.tape) (hm : w.cell? ⟨2, 0, none⟩ = some (.int .i64 m)) :
    Calls Tryf.prog 5 #[.int .i32 r] w fun e w' => e = .returned (.bool true) ∧ Below w.heap.size w w' := by
  obtain ⟨l, hE, hl, h4, hs, h47, e47⟩ := enc_all r
  have hcut : Lib.cut (⟨(111 :: 47 :: 97 :: l).toArray⟩ : ByteArray).data.toList [47] = ([111], 97 :: l, true) := cut_one [111] (97 :: l) (by decide)
  have hz : (⟨(111 :: 47 :: 97 :: l).toArray⟩ : ByteArray).size < 4294967281 := by
    rw [size_list]
    simp only [List.length_cons]
    omega
  have so : segAll [111] = true := by decide
  have sn : segAll (97 :: l) = segB r := by
    rw [← hs]
    simp only [segAll, List.all_cons]
    have e : segB ((97 : UInt8).toNat : Int) = true := by decide
    rw [e, Bool.true_and]
  cases hr : segB r with
  | true =>
    have hn : r ≠ 47 := by
      intro h
      subst h
      exact absurd hr (by decide)
    have hi : decide (0 ≤ Lib.indexByte (97 :: l) 47) = false := by
      rw [indexByte_no (97 :: l) (by intro b hb; rcases List.mem_cons.1 hb with rfl | hb; decide; exact h47 hn b hb)]
      rfl
    exact name_ok r l w hE h4 hr (zzParse_ok _ _ _ _ _ (parse_ok _ _ [111] (97 :: l) m w hz hm hcut rfl rfl hi so (sn.trans hr)))
  | false =>
    by_cases h : r = 47
    · have hi : decide (0 ≤ Lib.indexByte (97 :: l) 47) = true := by
        rw [e47 h]
        decide
      exact name_bad r l w hE h4 hr (zzParse_bad _ _ _ (parse_badA2 F _ _ [111] (97 :: l) m w hF hz hm hcut rfl rfl hi))
    · have hi : decide (0 ≤ Lib.indexByte (97 :: l) 47) = false := by
        rw [indexByte_no (97 :: l) (by intro b hb; rcases List.mem_cons.1 hb with rfl | hb; decide; exact h47 h b hb)]
        rfl
      exact name_bad r l w hE h4 hr (zzParse_bad _ _ _ (parse_badB2 F _ _ [111] (97 :: l) m w hF hz hm hcut rfl rfl hi so (sn.trans hr)))

/-- FnSegmentCharInRepoOwner returns true at every rune. -/
theorem owner_any (F : Interp) (r m : Int) (w : World) (hF : F.answers w.tape) (hm : w.cell? ⟨2, 0, none⟩ = some (.int .i64 m)) :
    Calls Tryf.prog 6 #[.int .i32 r] w fun e w' => e = .returned (.bool true) ∧ Below w.heap.size w w' := by
  obtain ⟨l, hE, hl, h4, hs, h47, e47⟩ := enc_all r
  have hz : (⟨(l ++ [47, 110]).toArray⟩ : ByteArray).size < 4294967281 := by
    rw [size_list]
    simp only [List.length_append, List.length_cons, List.length_nil]
    omega
  have sn : segAll [110] = true := by decide
  have hi : decide (0 ≤ Lib.indexByte [110] 47) = false := by decide
  cases hr : segB r with
  | true =>
    have hn : r ≠ 47 := by
      intro h
      subst h
      exact absurd hr (by decide)
    have hcut : Lib.cut (⟨(l ++ [47, 110]).toArray⟩ : ByteArray).data.toList [47] = (l, [110], true) := cut_one l [110] (h47 hn)
    exact owner_ok r l w hE h4 hr (zzParse_ok _ _ _ _ _ (parse_ok _ _ l [110] m w hz hm hcut hl rfl hi (hs.trans hr) sn))
  | false =>
    by_cases h : r = 47
    · have hcut : Lib.cut (⟨(l ++ [47, 110]).toArray⟩ : ByteArray).data.toList [47] = ([], [47, 110], true) := by
        rw [e47 h]
        exact cut_one [] [47, 110] (by simp)
      exact owner_bad r l w hE h4 hr (zzParse_bad _ _ _ (parse_badA1 F _ _ [] [47, 110] m w hF hz hm hcut rfl))
    · have hcut : Lib.cut (⟨(l ++ [47, 110]).toArray⟩ : ByteArray).data.toList [47] = (l, [110], true) := cut_one l [110] (h47 h)
      exact owner_bad r l w hE h4 hr (zzParse_bad _ _ _ (parse_badB1 F _ _ l [110] m w hF hz hm hcut hl rfl hi (hs.trans hr)))

end Go.Proofs.Qxb6615565aFmt
