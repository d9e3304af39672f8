/-
  THE CLOSED FACTS over fmt's calling stop at the one literal format of this road, and THE WALKS: givenTwice's record, and the law itself.
-/
import Derived.Test.Qxb6615840aFmtCards
import Derived.Stop.CallBack
import Derived.Stop.IfaceNil
import GoSem.ClaimData
import Derived.WalkKit
import Derived.WalkSpells
import Derived.LaidEqlPtr
namespace Go.Proofs.Qxb6615840aFmt
open Go.RowKit Go.Extern.Stop Go.Stop Go.Extern

theorem call8 (args : Array Value) (w : World) : (callFunc 8 args).run Tryf.prog w = (FmtCalls.sprintf #[9, 33] #[9] args).run Tryf.prog w :=
  run_callFunc_next Tryf.func8 (by kernel_rfl) (by kernel_rfl) (by kernel_rfl) args w
theorem guard8 (name : String) (w : World) : (FmtStop.guard name).run Tryf.prog w = .ok () w := by kernel_rfl
theorem nextTurns : Extern.next FmtCalls.turnsRow = some (FmtCalls.begun #[] #[]) := by kernel_rfl
theorem nextReturned : Extern.next FmtCalls.returnedRow = some (FmtCalls.returned #[] #[]) := by kernel_rfl
-- the format of givenTwice, one operand
theorem fmt0 : FmtStop.printed? ⟨#[102, 105, 101, 108, 100, 32, 37, 113, 32, 105, 115, 32, 103, 105, 118, 101, 110, 32, 116, 119, 105, 99, 101]⟩ 1 = some [(0, 113, false)] := by kernel_rfl
theorem fmt0r (w : World) : (FmtDoors.printed ⟨#[102, 105, 101, 108, 100, 32, 37, 113, 32, 105, 115, 32, 103, 105, 118, 101, 110, 32, 116, 119, 105, 99, 101]⟩ 1).run Tryf.prog w = .ok [(0, 113, false)] w := by kernel_rfl
def shape9 : List UInt8 := [12, 6, 0, 0, 0, 0, 0, 0, 0, 115, 116, 114, 105, 110, 103]
theorem act9_113 (name : String) (x : Value) (w : World) : (FmtCalls.act name false 113 false (.iface 9 x)).run Tryf.prog w = .ok (.closed false) w := by kernel_rfl
theorem op9_113 (name : String) (x : ByteArray) (w : World) : (FmtStop.operand name false 113 false (.iface 9 (.string x))).run Tryf.prog w = .ok (shape9, FmtStop.pack x.data.toList) w := by kernel_rfl
theorem assert23 (a : Addr) (w : World) : (Instr.typeAssert (.iface 23 (.pointer (some a))) 30 23 true).run Tryf.prog w = .ok (.tuple #[.pointer (some a), .bool true]) w := by kernel_rfl
attribute [local go_sem] call8 guard8 fmt0 fmt0r act9_113 op9_113 assert23

def asked (s : ByteArray) : List (List UInt8) := [[102, 105, 101, 108, 100, 32, 37, 113, 32, 105, 115, 32, 103, 105, 118, 101, 110, 32, 116, 119, 105, 99, 101], shape9, FmtStop.pack s.data.toList]
abbrev code : Value := .string { data := #[66, 65, 68, 95, 82, 69, 81, 85, 69, 83, 84] }

set_option maxHeartbeats 800000 in
/-- ZZgivenTwiceRecord: two new blocks (the variadic slice, the record), one draw (fmt's text). -/
theorem record_any (F : Interp) (s : ByteArray) (w : World) (hF : F.answers w.tape) :
    Calls Tryf.prog 5 #[.string s] w fun e w' => e = .returned (.tuple #[.pointer (some ⟨w.heap.size + 1, 0, none⟩), .bool true]) ∧
      w' = ((w.alloc (.cells #[.iface 9 (.string s)] 20)).alloc (.cells #[code, .string (FmtStop.textOf (F "fmt.Sprintf" (asked s) 0))] 28)).drew := by
  have hF' := answers_open hF
  go_enter Tryf.func5, Tryf.ntmps5
  go_wp2
  apply rows_value nextTurns
  case hr =>
    go_simp
    exact ⟨rfl, rfl⟩
  case h =>
    go_wp2
    go_ret2
    exact ⟨rfl, rfl⟩

theorem zz_ok (a b : ByteArray) (w : World) (ha : a.size ≤ 1048576) (hb : b.size ≤ 1048576) (hab : a.size + b.size ≤ 1048576) :
    Calls Tryf.prog 4 #[.string a, .string b] w fun e w' => e = .returned (.bool true) ∧ w' = w := by
  go_enter Tryf.func4, Tryf.ntmps4
  go_wp2
  go_ret
  exact ⟨rfl, rfl⟩

theorem zz_no (a b : ByteArray) (w : World) (hab : ¬ a.size + b.size ≤ 1048576) :
    Calls Tryf.prog 4 #[.string a, .string b] w fun e w' => e = .returned (.bool false) ∧ w' = w := by
  go_enter Tryf.func4, Tryf.ntmps4
  go_wp2
  all_goals
    go_ret
    exact ⟨rfl, rfl⟩

theorem law_no (a b : ByteArray) (w : World) (h : ¬ a.size + b.size ≤ 1048576 ∨ 65536 < a.size ∨ 65536 < b.size) :
    Calls Tryf.prog 3 #[.string a, .string b] w fun e w' => e = .returned (.bool true) ∧ Below w.heap.size w w' := by
  by_cases h1 : a.size + b.size ≤ 1048576
  · go_enter Tryf.func3, Tryf.ntmps3
    go_wp2_with (go_at_call 4; refine (zz_ok a b _ (by omega) (by omega) h1).mono ?_; rintro e w' ⟨rfl, rfl⟩)
    all_goals
      go_ret
      exact ⟨rfl, Below.refl _ _⟩
  · go_enter Tryf.func3, Tryf.ntmps3
    go_wp2_with (go_at_call 4; refine (zz_no a b _ h1).mono ?_; rintro e w' ⟨rfl, rfl⟩)
    go_ret
    exact ⟨rfl, Below.refl _ _⟩

theorem info28 : (Tryf.prog.info? 28).map (fun i => i.size) = some 2 := by kernel_rfl

/-- Two records, each in a block of its own: their pointers differ. -/
theorem two_apart (w : World) (A B C D : Array Value) (t1 t2 t3 t4 : TypeId) :
    (binOp .eql 23 (.pointer (some ⟨w.heap.size + 1, 0, none⟩)) (.pointer (some ⟨w.heap.size + 1 + 1 + 1, 0, none⟩))).run Tryf.prog
      ((((w.alloc (.cells A t1)).alloc (.cells B t2)).alloc (.cells C t3)).alloc (.cells D t4)).drew.drew
      = .ok (.bool false) ((((w.alloc (.cells A t1)).alloc (.cells B t2)).alloc (.cells C t3)).alloc (.cells D t4)).drew.drew := by
  have hi := info28
  cases hj : Tryf.prog.info? 28 with
  | none => rw [hj] at hi; simp at hi
  | some j =>
    rw [hj] at hi
    simp at hi
    refine run_eql_ptr_other (te := 28) (j := j) (ca := B) (cb := D) (ta := t2) (tb := t4) _ Tryf.underlying23 hj (by omega) (by simp) ?_ ?_
    · show ((((w.heap.push (.cells A t1)).push (.cells B t2)).push (.cells C t3)).push (.cells D t4))[w.heap.size + 1]? = _
      simp [Array.getElem_push]
    · show ((((w.heap.push (.cells A t1)).push (.cells B t2)).push (.cells C t3)).push (.cells D t4))[w.heap.size + 1 + 1 + 1]? = _
      simp [Array.getElem_push]

set_option maxHeartbeats 1600000 in
theorem law_yes (F : Interp) (a b : ByteArray) (w : World) (hF : F.answers w.tape) (h1 : a.size ≤ 65536) (h2 : b.size ≤ 65536) :
    Calls Tryf.prog 3 #[.string a, .string b] w fun e w' => e = .returned (.bool true) ∧ Below w.heap.size w w' := by
  have hne := two_apart w
  go_enter Tryf.func3, Tryf.ntmps3
  go_wp2_with (first | (go_at_call 4; refine (zz_ok a b _ (by omega) (by omega) (by omega)).mono ?_; rintro e w' ⟨rfl, rfl⟩) | fail)
  refine (record_any F a _ (by exact hF)).mono ?_
  rintro e w' ⟨rfl, rfl⟩
  go_wp2_with fail
  refine (record_any F b _ (by exact hF)).mono ?_
  rintro e w' ⟨rfl, rfl⟩
  go_wp2
  go_ret
  exact ⟨rfl, ((((((Below.refl _ _).alloc (Nat.le_refl _) _).alloc (by simp) _).alloc (by simp; omega) _).alloc (by simp; omega) _).drew).drew⟩

end Go.Proofs.Qxb6615840aFmt
