import Derived.Test.Qxb6615565aFmtW2
import Derived.Test.Qxb6615565aFmtShelf
import Derived.Stop.CallBack
import Derived.Stop.IfaceNil
import Derived.Deep.DeepFit
namespace Go.Proofs.Qxb6615565aFmt
open Go.RowKit Go.Extern.Stop Go.Stop Go.Extern

/-! fmt.Errorf AT THIS PROGRAM's TWO FORMATS: closed facts by the kernel, then one contract each. -/
theorem call26 (args : Array Value) (w : World) : (callFunc 26 args).run Tryf.prog w = ((FmtStop.errorf #[9, 36] #[24] args).run Tryf.prog w).andThen fun v w' => .ok (.value v) w' :=
  run_callFunc_extern Tryf.func26 (by kernel_rfl) (by kernel_rfl) (by kernel_rfl) (by kernel_rfl) args w
theorem guard26 (name : String) (w : World) : (FmtStop.guard name).run Tryf.prog w = .ok () w := by kernel_rfl
theorem fmtA : FmtStop.printed? ⟨#[114, 101, 112, 111, 32, 37, 113, 32, 105, 115, 32, 110, 111, 116, 32, 78, 65, 77, 69, 32, 111, 114, 32, 79, 87, 78, 69, 82, 47, 78, 65, 77, 69]⟩ 1 = some [(0, 113, false)] := by kernel_rfl
theorem fmtAr (w : World) : (FmtDoors.printed ⟨#[114, 101, 112, 111, 32, 37, 113, 32, 105, 115, 32, 110, 111, 116, 32, 78, 65, 77, 69, 32, 111, 114, 32, 79, 87, 78, 69, 82, 47, 78, 65, 77, 69]⟩ 1).run Tryf.prog w = .ok [(0, 113, false)] w := by kernel_rfl
theorem fmtB : FmtStop.printed? ⟨#[114, 101, 112, 111, 32, 37, 113, 58, 32, 97, 110, 32, 111, 119, 110, 101, 114, 32, 111, 114, 32, 110, 97, 109, 101, 32, 105, 115, 32, 65, 83, 67, 73, 73, 32, 108, 101, 116, 116, 101, 114, 115, 44, 32, 100, 105, 103, 105, 116, 115, 44, 32, 46, 44, 32, 95, 32, 97, 110, 100, 32, 45]⟩ 1 = some [(0, 113, false)] := by kernel_rfl
theorem fmtBr (w : World) : (FmtDoors.printed ⟨#[114, 101, 112, 111, 32, 37, 113, 58, 32, 97, 110, 32, 111, 119, 110, 101, 114, 32, 111, 114, 32, 110, 97, 109, 101, 32, 105, 115, 32, 65, 83, 67, 73, 73, 32, 108, 101, 116, 116, 101, 114, 115, 44, 32, 100, 105, 103, 105, 116, 115, 44, 32, 46, 44, 32, 95, 32, 97, 110, 100, 32, 45]⟩ 1).run Tryf.prog w = .ok [(0, 113, false)] w := by kernel_rfl
def shape9 : List UInt8 := [12, 6, 0, 0, 0, 0, 0, 0, 0, 115, 116, 114, 105, 110, 103]
theorem op9_113 (name : String) (b : Bool) (x : ByteArray) (w : World) : (FmtStop.operand name b 113 false (.iface 9 (.string x))).run Tryf.prog w = .ok (shape9, FmtStop.pack x.data.toList) w := by cases b <;> kernel_rfl
theorem ptr44 (w : World) : (FmtStop.ptrTo "errors.errorString").run Tryf.prog w = .ok 44 w := by kernel_rfl
theorem elem44 (w : World) : (elemOf 44).run Tryf.prog w = .ok 46 w := by kernel_rfl
theorem isError44 (w : World) : (FmtDoors.textMethod 44 "Error").run Tryf.prog w = .ok true w := by kernel_rfl
attribute [local go_sem] call26 guard26 fmtA fmtAr fmtB fmtBr op9_113 ptr44 elem44 isError44

set_option maxHeartbeats 400000 in
theorem errorfA (F : Interp) (s : ByteArray) (blk : Nat) (w : World) (hF : F.answers w.tape) (hc : w.cell? ⟨blk, 0, none⟩ = some (.iface 9 (.string s))) :
    Calls Tryf.prog 22 #[.string ⟨#[114, 101, 112, 111, 32, 37, 113, 32, 105, 115, 32, 110, 111, 116, 32, 78, 65, 77, 69, 32, 111, 114, 32, 79, 87, 78, 69, 82, 47, 78, 65, 77, 69]⟩, .slice (some ⟨blk, 0, none⟩) 1 1] w fun e w' =>
      (∃ a, e = .returned (.iface 44 (.pointer (some a)))) ∧ Below w.heap.size w w' := by
  have hF' := answers_open hF
  go_enter Tryf.func22, Tryf.ntmps22
  go_wp2
  go_ret
  exact ⟨⟨_, rfl⟩, ((Below.refl _ w).alloc (Nat.le_refl _) _).drew⟩

set_option maxHeartbeats 400000 in
theorem errorfB (F : Interp) (s : ByteArray) (blk : Nat) (w : World) (hF : F.answers w.tape) (hc : w.cell? ⟨blk, 0, none⟩ = some (.iface 9 (.string s))) :
    Calls Tryf.prog 22 #[.string ⟨#[114, 101, 112, 111, 32, 37, 113, 58, 32, 97, 110, 32, 111, 119, 110, 101, 114, 32, 111, 114, 32, 110, 97, 109, 101, 32, 105, 115, 32, 65, 83, 67, 73, 73, 32, 108, 101, 116, 116, 101, 114, 115, 44, 32, 100, 105, 103, 105, 116, 115, 44, 32, 46, 44, 32, 95, 32, 97, 110, 100, 32, 45]⟩, .slice (some ⟨blk, 0, none⟩) 1 1] w fun e w' =>
      (∃ a, e = .returned (.iface 44 (.pointer (some a)))) ∧ Below w.heap.size w w' := by
  have hF' := answers_open hF
  go_enter Tryf.func22, Tryf.ntmps22
  go_wp2
  go_ret
  exact ⟨⟨_, rfl⟩, ((Below.refl _ w).alloc (Nat.le_refl _) _).drew⟩

theorem chain {a b c : World} (h : Below a.heap.size a b) (k : Below b.heap.size b c) : Below a.heap.size a c := h.trans (k.mono h.size)

theorem newCell (w : World) (v : Value) (t : TypeId) : (w.alloc (.cells #[v] t)).cell? ⟨w.heap.size, 0, none⟩ = some v := by simp

theorem contains_at (n : List UInt8) (b : Bool) (h : decide (0 ≤ Lib.indexByte n 47) = b) (w : World) :
    Calls Tryf.prog 24 #[.string ⟨n.toArray⟩, .string ⟨#[47]⟩] w fun e w' => e = .returned (.bool b) ∧ w' = w := by
  have hk := Tryf.strings_Contains_one ⟨n.toArray⟩ 47 w
  have e : (⟨n.toArray⟩ : ByteArray).data.toList = n := rfl
  rw [e, h] at hk
  exact hk

theorem allOf_at (l : List UInt8) (b : Bool) (h : segAll l = b) (w : World) :
    Calls Tryf.prog 21 #[.string ⟨l.toArray⟩, .func (.func 17) #[] #[]] w fun e w' => e = .returned (.bool b) ∧ Below w.heap.size w w' := by
  have hk := allOf_any ⟨l.toArray⟩ w
  have e : (⟨l.toArray⟩ : ByteArray).data.toList = l := rfl
  rw [e, h] at hk
  exact hk

theorem cut_at (v : ByteArray) (o n : List UInt8) (m : Int) (w : World) (hs : v.size < 4294967281) (hm : w.cell? ⟨2, 0, none⟩ = some (.int .i64 m))
    (hcut : Lib.cut v.data.toList [47] = (o, n, true)) :
    Calls Tryf.prog 23 #[.string v, .string ⟨#[47]⟩] w fun e w' => e = .returned (.tuple #[.string ⟨o.toArray⟩, .string ⟨n.toArray⟩, .bool true]) ∧ ∃ k, w' = w.drewN k := by
  have hc0 := Tryf.strings_Cut v ⟨#[47]⟩ m w hs hm
  have e47 : (⟨#[47]⟩ : ByteArray).data.toList = [47] := rfl
  rw [e47, hcut] at hc0
  exact hc0

set_option maxHeartbeats 400000 in
theorem parse_ok (v u : ByteArray) (o n : List UInt8) (m : Int) (w : World) (hs : v.size < 4294967281) (hm : w.cell? ⟨2, 0, none⟩ = some (.int .i64 m))
    (hcut : Lib.cut v.data.toList [47] = (o, n, true)) (ho : o.isEmpty = false) (hn : n.isEmpty = false) (hi : decide (0 ≤ Lib.indexByte n 47) = false) (so : segAll o = true) (sn : segAll n = true) :
    Calls Tryf.prog 16 #[.string v, .string u] w fun e w' => e = .returned (.tuple #[.string ⟨o.toArray⟩, .string ⟨n.toArray⟩, .nilIface]) ∧ Below w.heap.size w w' := by
  have c1 := cut_at v o n m w hs hm hcut
  have c2 := contains_at n false hi
  have c3 := allOf_at o true so
  have c4 := allOf_at n true sn
  clear hcut so sn hi
  go_enter Tryf.func16, Tryf.ntmps16
  go_wp2_with fail
  refine c1.mono ?_
  clear c1
  rintro e w1 ⟨rfl, k, rfl⟩
  go_wp2_with fail
  refine (c2 _).mono ?_
  clear c2
  rintro e w1 ⟨rfl, rfl⟩
  go_wp2_with fail
  refine (c3 _).mono ?_
  clear c3
  rintro e w2 ⟨rfl, hb2⟩
  go_wp2_with fail
  refine (c4 _).mono ?_
  clear c4
  rintro e w3 ⟨rfl, hb3⟩
  go_wp2_with fail
  go_ret3
  exact ⟨rfl, chain (chain (below_drewN (Below.refl _ w) k) hb2) hb3⟩

/-- What a refused value comes to: no owner, no name, an error that is not nil. -/
def refused (w : World) (e : Ending) (w' : World) : Prop := ∃ a, e = .returned (.tuple #[.string ⟨#[]⟩, .string ⟨#[]⟩, .iface 44 (.pointer (some a))]) ∧ Below w.heap.size w w'

set_option maxHeartbeats 400000 in
theorem parse_badA1 (F : Interp) (v u : ByteArray) (o n : List UInt8) (m : Int) (w : World) (hF : F.answers w.tape) (hs : v.size < 4294967281) (hm : w.cell? ⟨2, 0, none⟩ = some (.int .i64 m))
    (hcut : Lib.cut v.data.toList [47] = (o, n, true)) (ho : o.isEmpty = true) :
    Calls Tryf.prog 16 #[.string v, .string u] w (refused w) := by
  have c1 := cut_at v o n m w hs hm hcut
  clear hcut
  go_enter Tryf.func16, Tryf.ntmps16
  go_wp2_with fail
  refine c1.mono ?_
  clear c1
  rintro e w1 ⟨rfl, k, rfl⟩
  go_wp2_with fail
  refine (errorfA F v _ _ (by exact hF) (by exact newCell (w.drewN k) _ 20)).mono ?_
  rintro e w3 ⟨⟨a, rfl⟩, hb3⟩
  go_wp2_with fail
  go_ret3
  exact ⟨a, rfl, chain ((below_drewN (Below.refl _ w) k).alloc (Nat.le_refl _) _) hb3⟩

set_option maxHeartbeats 400000 in
theorem parse_badA2 (F : Interp) (v u : ByteArray) (o n : List UInt8) (m : Int) (w : World) (hF : F.answers w.tape) (hs : v.size < 4294967281) (hm : w.cell? ⟨2, 0, none⟩ = some (.int .i64 m))
    (hcut : Lib.cut v.data.toList [47] = (o, n, true)) (ho : o.isEmpty = false) (hn : n.isEmpty = false) (hi : decide (0 ≤ Lib.indexByte n 47) = true) :
    Calls Tryf.prog 16 #[.string v, .string u] w (refused w) := by
  have c1 := cut_at v o n m w hs hm hcut
  have c2 := contains_at n true hi
  clear hcut hi
  go_enter Tryf.func16, Tryf.ntmps16
  go_wp2_with fail
  refine c1.mono ?_
  clear c1
  rintro e w1 ⟨rfl, k, rfl⟩
  go_wp2_with fail
  refine (c2 _).mono ?_
  clear c2
  rintro e w1 ⟨rfl, rfl⟩
  go_wp2_with fail
  refine (errorfA F v _ _ (by exact hF) (by exact newCell (w.drewN k) _ 20)).mono ?_
  rintro e w3 ⟨⟨a, rfl⟩, hb3⟩
  go_wp2_with fail
  go_ret3
  exact ⟨a, rfl, chain ((below_drewN (Below.refl _ w) k).alloc (Nat.le_refl _) _) hb3⟩

set_option maxHeartbeats 400000 in
theorem parse_badB1 (F : Interp) (v u : ByteArray) (o n : List UInt8) (m : Int) (w : World) (hF : F.answers w.tape) (hs : v.size < 4294967281) (hm : w.cell? ⟨2, 0, none⟩ = some (.int .i64 m))
    (hcut : Lib.cut v.data.toList [47] = (o, n, true)) (ho : o.isEmpty = false) (hn : n.isEmpty = false) (hi : decide (0 ≤ Lib.indexByte n 47) = false) (so : segAll o = false) :
    Calls Tryf.prog 16 #[.string v, .string u] w (refused w) := by
  have c1 := cut_at v o n m w hs hm hcut
  have c2 := contains_at n false hi
  have c3 := allOf_at o false so
  clear hcut hi so
  go_enter Tryf.func16, Tryf.ntmps16
  go_wp2_with fail
  refine c1.mono ?_
  clear c1
  rintro e w1 ⟨rfl, k, rfl⟩
  go_wp2_with fail
  refine (c2 _).mono ?_
  clear c2
  rintro e w1 ⟨rfl, rfl⟩
  go_wp2_with fail
  refine (c3 _).mono ?_
  clear c3
  rintro e w2 ⟨rfl, hb2⟩
  have hF2 : F.answers w2.tape := by rw [hb2.tape]; exact hF
  go_wp2_with fail
  refine (errorfB F v _ _ (by exact hF2) (by exact newCell w2 _ 20)).mono ?_
  rintro e w3 ⟨⟨a, rfl⟩, hb3⟩
  go_wp2_with fail
  go_ret3
  exact ⟨a, rfl, chain (chain (below_drewN (Below.refl _ w) k) (hb2.alloc hb2.size _)) hb3⟩

set_option maxHeartbeats 400000 in
theorem parse_badB2 (F : Interp) (v u : ByteArray) (o n : List UInt8) (m : Int) (w : World) (hF : F.answers w.tape) (hs : v.size < 4294967281) (hm : w.cell? ⟨2, 0, none⟩ = some (.int .i64 m))
    (hcut : Lib.cut v.data.toList [47] = (o, n, true)) (ho : o.isEmpty = false) (hn : n.isEmpty = false) (hi : decide (0 ≤ Lib.indexByte n 47) = false) (so : segAll o = true) (sn : segAll n = false) :
    Calls Tryf.prog 16 #[.string v, .string u] w (refused w) := by
  have c1 := cut_at v o n m w hs hm hcut
  have c2 := contains_at n false hi
  have c3 := allOf_at o true so
  have c4 := allOf_at n false sn
  clear hcut hi so sn
  go_enter Tryf.func16, Tryf.ntmps16
  go_wp2_with fail
  refine c1.mono ?_
  clear c1
  rintro e w1 ⟨rfl, k, rfl⟩
  go_wp2_with fail
  refine (c2 _).mono ?_
  clear c2
  rintro e w1 ⟨rfl, rfl⟩
  go_wp2_with fail
  refine (c3 _).mono ?_
  clear c3
  rintro e w2 ⟨rfl, hb2⟩
  go_wp2_with fail
  refine (c4 _).mono ?_
  clear c4
  rintro e w3 ⟨rfl, hb3⟩
  have hF3 : F.answers w3.tape := by rw [hb3.tape, hb2.tape]; exact hF
  go_wp2_with fail
  refine (errorfB F v _ _ (by exact hF3) (by exact newCell w3 _ 20)).mono ?_
  rintro e w4 ⟨⟨a, rfl⟩, hb4⟩
  go_wp2_with fail
  go_ret3
  exact ⟨a, rfl, chain (chain (chain (below_drewN (Below.refl _ w) k) hb2) (hb3.alloc hb3.size _)) hb4⟩

/-- ZZparseRepo hands parseRepo's three results on. -/
theorem zzParse_ok (v u : ByteArray) (o n : List UInt8) (w : World)
    (h : Calls Tryf.prog 16 #[.string v, .string u] w fun e w' => e = .returned (.tuple #[.string ⟨o.toArray⟩, .string ⟨n.toArray⟩, .nilIface]) ∧ Below w.heap.size w w') :
    Calls Tryf.prog 11 #[.string v, .string u] w fun e w' => e = .returned (.tuple #[.string ⟨o.toArray⟩, .string ⟨n.toArray⟩, .nilIface]) ∧ Below w.heap.size w w' := by
  go_enter Tryf.func11, Tryf.ntmps11
  go_wp2_with fail
  refine h.mono ?_
  rintro e w1 ⟨rfl, hb⟩
  go_wp2_with fail
  go_ret3
  exact ⟨rfl, hb⟩

theorem zzParse_bad (v u : ByteArray) (w : World) (h : Calls Tryf.prog 16 #[.string v, .string u] w (refused w)) :
    Calls Tryf.prog 11 #[.string v, .string u] w (refused w) := by
  go_enter Tryf.func11, Tryf.ntmps11
  go_wp2_with fail
  refine h.mono ?_
  rintro e w1 ⟨a, rfl, hb⟩
  go_wp2_with fail
  go_ret3
  exact ⟨a, rfl, hb⟩

end Go.Proofs.Qxb6615565aFmt
