/-
  THE SMALL FUNCTIONS by their contracts.
-/
import Derived.Test.Qxb6614769aRows
import Derived.WalkKit
import Derived.WalkSpells
import Derived.ProofKit
import Derived.OpenShut
import Derived.Below
import Derived.Deep.Draws
import Derived.Deep.QuietTactic
import Derived.BigQuiet
import Derived.BigRegion
import Derived.Laws.ResultCell
import Derived.Deep.RegionHeld3
import Derived.Handy
namespace Go.Proofs.Qxb6614769a
open Go.RowKit

/-- The cells of a node. -/
def nodeCells (l0 l1 l2 cnt dep : Int) (ch bl : Value) : Array Value := #[.int .i64 l0, .int .i64 l1, .int .i64 l2, .int .i64 cnt, .int .i64 dep, ch, bl]
/-- The cells of a block. -/
def blockCells (t : Option Addr) (n c : Nat) (k wd : Int) : Array Value := #[.pointer none, .int .i32 0, .int .i32 0, .int .i32 0, .int .i32 0, .slice t n c, .int .i32 k, .int .i32 wd]

theorem idLen_any (w : World) :
    Calls Try.prog 23 #[.agg #[.pointer none, .int .i32 0, .int .i32 0, .int .i32 0, .int .i32 0]] w fun e w' => e = .returned (.int .i64 0) ∧ Below w.heap.size w w' := by
  go_enter Try.func23, Try.ntmps23
  go_wp2
  go_ret
  exact ⟨rfl, (Below.refl _ _).alloc (Nat.le_refl _) _⟩

theorem leaf_any (N : Nat) (a : Option Addr) (m c : Nat) (w : World) (h : w.cell? ⟨N, 5, none⟩ = some (.slice a m c)) :
    Calls Try.prog 20 #[.pointer (some ⟨N, 0, none⟩)] w fun e w' => e = .returned (.bool a.isNone) ∧ w = w' := by
  have hnil := fun w' => Lib.run_eql_slice_nil (P := Try.prog) w' 45 30 a m c 0 0 Try.underlying45
  go_enter Try.func20, Try.ntmps20
  go_wp2
  go_ret
  exact ⟨rfl, rfl⟩

set_option maxHeartbeats 800000 in
theorem plus_any (x0 x1 x2 y0 y1 y2 : Int) (w : World) (hx : 0 ≤ x0 ∧ x0 ≤ 1073741824 ∧ 0 ≤ x1 ∧ x1 ≤ 1073741824 ∧ 0 ≤ x2 ∧ x2 ≤ 1073741824) (hy : 0 ≤ y0 ∧ y0 ≤ 1073741824 ∧ 0 ≤ y1 ∧ y1 ≤ 1073741824 ∧ 0 ≤ y2 ∧ y2 ≤ 1073741824) :
    Calls Try.prog 21 #[.agg #[.int .i64 x0, .int .i64 x1, .int .i64 x2], .agg #[.int .i64 y0, .int .i64 y1, .int .i64 y2]] w fun e w' => e = .returned (.agg #[.int .i64 (x0 + y0), .int .i64 (x1 + y1), .int .i64 (x2 + y2)]) ∧ Below w.heap.size w w' := by
  obtain ⟨a1, a2, a3, a4, a5, a6⟩ := hx
  obtain ⟨b1, b2, b3, b4, b5, b6⟩ := hy
  go_enter Try.func21, Try.ntmps21
  go_wp2
  exact bodyPost_ret (v := .agg #[.int .i64 (x0 + y0), .int .i64 (x1 + y1), .int .i64 (x2 + y2)]) (by simp [results, Try.results21, go_sem]) rfl ⟨rfl, by go_grown⟩

set_option maxHeartbeats 1600000 in
theorem lengths_any (B : Nat) (t : Option Addr) (n c : Nat) (k wd : Int) (w : World) (g1 : w.cell? ⟨B, 5, none⟩ = some (.slice t n c)) (g2 : w.cell? ⟨B, 6, none⟩ = some (.int .i32 k)) (g3 : w.cell? ⟨B, 7, none⟩ = some (.int .i32 wd))
    (hk : 0 ≤ k ∧ k ≤ 1048576) (hw : 0 ≤ wd ∧ wd ≤ 1048576) (hB : B < w.heap.size) :
    Calls Try.prog 22 #[.pointer (some ⟨B, 0, none⟩)] w fun e w' => e = .returned (.agg #[.int .i64 k, .int .i64 (k + wd), .int .i64 n]) ∧ Below w.heap.size w w' := by
  obtain ⟨k0, k1⟩ := hk
  obtain ⟨w0, w1⟩ := hw
  go_enter Try.func22, Try.ntmps22
  go_wp2
  go_region
  go_wp2
  exact bodyPost_ret (v := .agg #[.int .i64 k, .int .i64 (k + wd), .int .i64 n]) (by simp [results, Try.results22, go_sem]) rfl ⟨rfl, by go_grown⟩

theorem newBlock_any (t : Option Addr) (n c : Nat) (k wd : Int) (w : World) :
    Calls Try.prog 17 #[.slice t n c, .int .i32 k, .int .i32 wd] w fun e w' => e = .returned (.agg (blockCells t n c k wd)) ∧ Below w.heap.size w w' := by
  go_enter Try.func17, Try.ntmps17
  go_wp2
  exact bodyPost_ret (v := .agg (blockCells t n c k wd)) (by simp [results, Try.results17, go_sem]; rfl) rfl ⟨rfl, by go_grown⟩

theorem newLeaf_any (a : Option Addr) (n c : Nat) (w : World) :
    Calls Try.prog 8 #[.slice a n c, .int .i64 0, .int .i64 0, .int .i64 0, .int .i64 0, .int .i64 0] w fun e w' => e = .returned (.pointer (some ⟨w.heap.size, 0, none⟩)) ∧ w' = w.alloc (.cells (nodeCells 0 0 0 0 0 (.slice none 0 0) (.slice a n c)) 47) := by
  go_enter Try.func8, Try.ntmps8
  go_wp2
  go_ret
  exact ⟨rfl, rfl⟩

theorem newInner_any (a b : Nat) (w : World) :
    Calls Try.prog 11 #[.pointer (some ⟨a, 0, none⟩), .pointer (some ⟨b, 0, none⟩)] w fun e w' => e = .returned (.pointer (some ⟨w.heap.size + 1, 0, none⟩)) ∧ w' = (w.alloc (.cells #[.pointer (some ⟨a, 0, none⟩), .pointer (some ⟨b, 0, none⟩)] 30)).alloc (.cells (nodeCells 0 0 0 0 0 (.slice (some ⟨w.heap.size, 0, none⟩) 2 2) (.slice none 0 0)) 47) := by
  go_enter Try.func11, Try.ntmps11
  go_wp2
  go_ret
  exact ⟨rfl, rfl⟩

theorem storeOf_any (a : Nat) (w : World) :
    Calls Try.prog 12 #[.pointer (some ⟨a, 0, none⟩)] w fun e w' => e = .returned (.pointer (some ⟨w.heap.size, 0, none⟩)) ∧ w' = w.alloc (.cells #[.pointer (some ⟨a, 0, none⟩)] 58) := by
  go_enter Try.func12, Try.ntmps12
  go_wp2
  go_ret
  exact ⟨rfl, rfl⟩

theorem len_any (s N u : Nat) (x : Int) (w : World) (hu : u < 3) (h : w.cell? ⟨s, 0, none⟩ = some (.pointer (some ⟨N, 0, none⟩))) (g : w.cell? ⟨N, u, none⟩ = some (.int .i64 x)) :
    Calls Try.prog 13 #[.pointer (some ⟨s, 0, none⟩), .int .u8 u] w fun e w' => e = .returned (.int .i64 x) ∧ w = w' := by
  go_enter Try.func13, Try.ntmps13
  go_wp2
  go_ret
  exact ⟨rfl, rfl⟩

theorem num_any (s N : Nat) (x : Int) (w : World) (h : w.cell? ⟨s, 0, none⟩ = some (.pointer (some ⟨N, 0, none⟩))) (g : w.cell? ⟨N, 3, none⟩ = some (.int .i64 x)) :
    Calls Try.prog 14 #[.pointer (some ⟨s, 0, none⟩)] w fun e w' => e = .returned (.int .i64 x) ∧ w = w' := by
  go_enter Try.func14, Try.ntmps14
  go_wp2
  go_ret
  exact ⟨rfl, rfl⟩

theorem depth_any (s N : Nat) (x : Int) (w : World) (h : w.cell? ⟨s, 0, none⟩ = some (.pointer (some ⟨N, 0, none⟩))) (g : w.cell? ⟨N, 4, none⟩ = some (.int .i64 x)) :
    Calls Try.prog 15 #[.pointer (some ⟨s, 0, none⟩)] w fun e w' => e = .returned (.int .i64 x) ∧ w = w' := by
  go_enter Try.func15, Try.ntmps15
  go_wp2
  go_ret
  exact ⟨rfl, rfl⟩

end Go.Proofs.Qxb6614769a
