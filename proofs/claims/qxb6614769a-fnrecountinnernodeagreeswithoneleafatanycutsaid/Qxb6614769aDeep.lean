/-
  deepest, recount by their contracts.
-/
import Derived.Test.Qxb6614769aSmall
import Derived.LoopN
namespace Go.Proofs.Qxb6614769a
open Go.RowKit

/-- The blocks of a row, as they lie in memory: element i: no identifier, a text of L i bytes, K i characters, W i of them wide. -/
structure BRow (w : World) (g m : Nat) (A : Nat → Option Addr) (L C : Nat → Nat) (K W : Nat → Int) : Prop where
  cells : ∀ i, i < m → ∀ j, j < 8 → w.cell? ⟨g, i * 8 + j, none⟩ = (blockCells (A i) (L i) (C i) (K i) (W i))[j]?
  low : g < w.heap.size

theorem BRow.kept {w w' : World} {g m : Nat} {A : Nat → Option Addr} {L C : Nat → Nat} {K W : Nat → Int} (h : BRow w g m A L C K W) (hb : w'.heap[g]? = w.heap[g]?) : BRow w' g m A L C K W :=
  ⟨fun i hi j hj => by rw [← h.cells i hi j hj]; exact World.cell?_of_block (w := w) hb, by
    have h1 := h.low
    rcases Nat.lt_or_ge g w'.heap.size with h' | h'
    · exact h'
    · rw [Array.getElem?_eq_none h', Array.getElem?_eq_getElem h1] at hb; cases hb⟩

set_option maxHeartbeats 1600000 in
theorem deepest_leaf (N g m : Nat) (A : Nat → Option Addr) (L C : Nat → Nat) (K W : Nat → Int) (w : World) (h : BRow w g m A L C K W) (hm : m ≤ 65536)
    (g5 : w.cell? ⟨N, 5, none⟩ = some (.slice none 0 0)) (g6 : w.cell? ⟨N, 6, none⟩ = some (.slice (some ⟨g, 0, none⟩) m m)) (hN : N < w.heap.size) :
    Calls Try.prog 19 #[.pointer (some ⟨N, 0, none⟩)] w fun e w' => e = .returned (.int .i64 0) ∧ Below w.heap.size w w' := by
  have H : Hid (BRow w g m A L C K W) := h
  clear h
  go_enter Try.func19, Try.ntmps19
  go_wp2
  go_loopw [3, 13] (fun d i wr => ∃ k : Nat, k ≤ m ∧ d = .int .i64 0 ∧ i = .int .i64 k ∧ Below w.heap.size w wr) (fun _ i _ => m - (intOf i).toNat)
  case atStart => exact ⟨0, Nat.zero_le _, rfl, rfl, Below.refl _ _⟩
  case round =>
    obtain ⟨k, hk, rfl, rfl, hbel⟩ := hrel
    by_cases hlt : k < m
    · have hg := H.out.low
      have c0 := (hbel.cell (p := ⟨g, k * 8, none⟩) hg).trans (H.out.cells k hlt 0 (by decide))
      have c1 := (hbel.cell (p := ⟨g, k * 8 + 1, none⟩) hg).trans (H.out.cells k hlt 1 (by decide))
      have c2 := (hbel.cell (p := ⟨g, k * 8 + 2, none⟩) hg).trans (H.out.cells k hlt 2 (by decide))
      have c3 := (hbel.cell (p := ⟨g, k * 8 + 3, none⟩) hg).trans (H.out.cells k hlt 3 (by decide))
      have c4 := (hbel.cell (p := ⟨g, k * 8 + 4, none⟩) hg).trans (H.out.cells k hlt 4 (by decide))
      have c5 := (hbel.cell (p := ⟨g, k * 8 + 5, none⟩) hg).trans (H.out.cells k hlt 5 (by decide))
      have c6 := (hbel.cell (p := ⟨g, k * 8 + 6, none⟩) hg).trans (H.out.cells k hlt 6 (by decide))
      have c7 := (hbel.cell (p := ⟨g, k * 8 + 7, none⟩) hg).trans (H.out.cells k hlt 7 (by decide))
      simp [blockCells] at c0 c1 c2 c3 c4 c5 c6 c7
      go_wp2_with fail
      refine (idLen_any _).mono ?_
      rintro e w1 ⟨rfl, hb1⟩
      have R : Below w.heap.size w w1 := (hbel.alloc hbel.size _).trans (hb1.mono (by simp; have := hbel.size; omega))
      clear c0 c1 c2 c3 c4 c5 c6 c7
      go_wp2
      go_roundw
      case rel => exact ⟨k + 1, by omega, rfl, by go_num, R⟩
      case measure => simp [intOf]; omega
    · have d5 := (hbel.cell (p := ⟨N, 5, none⟩) hN).trans g5
      go_wp2
      refine wp_loop_rounds 1 ?_
      rw [rounds_succ]
      go_wp2
      go_ret
      exact ⟨rfl, hbel⟩

set_option maxHeartbeats 1600000 in
theorem deepest_inner (N gc l r : Nat) (w : World)
    (g5 : w.cell? ⟨N, 5, none⟩ = some (.slice (some ⟨gc, 0, none⟩) 2 2)) (g6 : w.cell? ⟨N, 6, none⟩ = some (.slice none 0 0))
    (p0 : w.cell? ⟨gc, 0, none⟩ = some (.pointer (some ⟨l, 0, none⟩))) (p1 : w.cell? ⟨gc, 1, none⟩ = some (.pointer (some ⟨r, 0, none⟩)))
    (dl : w.cell? ⟨l, 4, none⟩ = some (.int .i64 0)) (dr : w.cell? ⟨r, 4, none⟩ = some (.int .i64 0)) :
    Calls Try.prog 19 #[.pointer (some ⟨N, 0, none⟩)] w fun e w' => e = .returned (.int .i64 0) ∧ w = w' := by
  go_enter Try.func19, Try.ntmps19
  go_wp2
  refine wp_loop_rounds 1 ?_
  rw [rounds_succ]
  go_wp2
  refine wp_loop_rounds 3 ?_
  rw [rounds_succ]
  go_wp2
  rw [rounds_succ]
  go_wp2
  rw [rounds_succ]
  go_wp2
  go_ret
  exact ⟨rfl, rfl⟩

theorem hidden' {p : Prop} (h : p) : Hid p := h

/-- The sum of k terms of f, from place a on. -/
def sm (f : Nat → Int) (a : Nat) : Nat → Int
  | 0 => 0
  | k + 1 => sm f a k + f (a + k)

/-- The node in block N, whole. -/
def IsNode (w : World) (N : Nat) (l0 l1 l2 cnt dep : Int) (ch bl : Value) : Prop := w.heap[N]? = some (.cells (nodeCells l0 l1 l2 cnt dep ch bl) 47 (0, 0))

theorem IsNode.cell {w : World} {N : Nat} {l0 l1 l2 cnt dep : Int} {ch bl : Value} (h : IsNode w N l0 l1 l2 cnt dep ch bl) :
    w.cell? ⟨N, 0, none⟩ = some (.int .i64 l0) ∧ w.cell? ⟨N, 1, none⟩ = some (.int .i64 l1) ∧ w.cell? ⟨N, 2, none⟩ = some (.int .i64 l2) ∧ w.cell? ⟨N, 3, none⟩ = some (.int .i64 cnt) ∧ w.cell? ⟨N, 4, none⟩ = some (.int .i64 dep) ∧ w.cell? ⟨N, 5, none⟩ = some ch ∧ w.cell? ⟨N, 6, none⟩ = some bl := by
  unfold IsNode at h
  simp [World.cell?, h, nodeCells]
theorem IsNode.free {w : World} {N : Nat} {l0 l1 l2 cnt dep : Int} {ch bl : Value} (h : IsNode w N l0 l1 l2 cnt dep ch bl) (j : Nat) : w.frozen? ⟨N, j, none⟩ = false := by
  unfold IsNode at h
  simp [World.frozen?, h]
theorem IsNode.lt {w : World} {N : Nat} {l0 l1 l2 cnt dep : Int} {ch bl : Value} (h : IsNode w N l0 l1 l2 cnt dep ch bl) : N < w.heap.size := lt_of_block h

/-- Only block N may have turned; blocks may be new. -/
abbrev Gr (N : Nat) (w w' : World) : Prop := w.grownBy w' (some N)
theorem gr_refl (N : Nat) (w : World) : Gr N w w := ⟨rfl, rfl, rfl, Nat.le_refl _, fun _ _ _ => rfl⟩
theorem gr_trans {N : Nat} {a b c : World} (h : Gr N a b) (k : Gr N b c) : Gr N a c :=
  ⟨k.os.trans h.os, k.tape.trans h.tape, k.output.trans h.output, Nat.le_trans h.size k.size, fun i hi hne => (k.block i (Nat.lt_of_lt_of_le hi h.size) hne).trans (h.block i hi hne)⟩
theorem gr_below {N : Nat} {a b : World} (h : Below a.heap.size a b) : Gr N a b := ⟨h.os, h.tape, h.output, h.size, fun i hi _ => h.block i hi⟩
theorem gr_set (N : Nat) (w : World) (j : Nat) (u : Value) : Gr N w (w.setCell ⟨N, j, none⟩ u) :=
  ⟨rfl, rfl, rfl, by simp [World.setCell], fun k _ hk => heap_setCell_other w ⟨N, j, none⟩ k u (fun e => hk (by simp [e]))⟩
theorem gr_drew {N : Nat} {a b : World} (h : Gr N a b) : Gr N a b.drew := ⟨h.os, h.tape, h.output, h.size, h.block⟩

section
variable {w w' : World} {N : Nat} {l0 l1 l2 cnt dep : Int} {ch bl : Value}
theorem IsNode.kept (h : IsNode w N l0 l1 l2 cnt dep ch bl) (hb : Below w.heap.size w w') : IsNode w' N l0 l1 l2 cnt dep ch bl := by
  unfold IsNode; rw [hb.block N h.lt]; exact h
theorem IsNode.set0 (h : IsNode w N l0 l1 l2 cnt dep ch bl) (x : Int) : IsNode (w.setCell ⟨N, 0, none⟩ (.int .i64 x)) N x l1 l2 cnt dep ch bl := heap_setCell_same w N 0 _ 47 _ h
theorem IsNode.set1 (h : IsNode w N l0 l1 l2 cnt dep ch bl) (x : Int) : IsNode (w.setCell ⟨N, 1, none⟩ (.int .i64 x)) N l0 x l2 cnt dep ch bl := heap_setCell_same w N 1 _ 47 _ h
theorem IsNode.set2 (h : IsNode w N l0 l1 l2 cnt dep ch bl) (x : Int) : IsNode (w.setCell ⟨N, 2, none⟩ (.int .i64 x)) N l0 l1 x cnt dep ch bl := heap_setCell_same w N 2 _ 47 _ h
theorem IsNode.set3 (h : IsNode w N l0 l1 l2 cnt dep ch bl) (x : Int) : IsNode (w.setCell ⟨N, 3, none⟩ (.int .i64 x)) N l0 l1 l2 x dep ch bl := heap_setCell_same w N 3 _ 47 _ h
theorem IsNode.set4 (h : IsNode w N l0 l1 l2 cnt dep ch bl) (x : Int) : IsNode (w.setCell ⟨N, 4, none⟩ (.int .i64 x)) N l0 l1 l2 cnt x ch bl := heap_setCell_same w N 4 _ 47 _ h
theorem IsNode.drew (h : IsNode w N l0 l1 l2 cnt dep ch bl) : IsNode w.drew N l0 l1 l2 cnt dep ch bl := h

/-- 'n.length = ..': three cells. -/
theorem IsNode.set012 (h : IsNode w N l0 l1 l2 cnt dep ch bl) (x y z : Int) :
    IsNode (((w.setCell ⟨N, 0, none⟩ (.int .i64 x)).setCell ⟨N, 1, none⟩ (.int .i64 y)).setCell ⟨N, 2, none⟩ (.int .i64 z)) N x y z cnt dep ch bl ∧
      Gr N w (((w.setCell ⟨N, 0, none⟩ (.int .i64 x)).setCell ⟨N, 1, none⟩ (.int .i64 y)).setCell ⟨N, 2, none⟩ (.int .i64 z)) :=
  ⟨((h.set0 x).set1 y).set2 z, gr_trans (gr_trans (gr_set N w 0 _) (gr_set N _ 1 _)) (gr_set N _ 2 _)⟩
end

set_option maxHeartbeats 3200000 in
theorem recount_leaf (N g m : Nat) (A : Nat → Option Addr) (L C : Nat → Nat) (K W : Nat → Int) (l0 l1 l2 cnt dep : Int) (w : World) (hn : IsNode w N l0 l1 l2 cnt dep (.slice none 0 0) (.slice (some ⟨g, 0, none⟩) m m))
    (h : BRow w g m A L C K W) (hm : m ≤ 65536) (hgN : g ≠ N) (hb : ∀ i, i < m → 0 ≤ K i ∧ K i ≤ 1048576 ∧ 0 ≤ W i ∧ W i ≤ 1048576) 
    (hs : ∀ k, k ≤ m → 0 ≤ sm K 0 k ∧ sm K 0 k ≤ 1048576 ∧ 0 ≤ sm (fun i => K i + W i) 0 k ∧ sm (fun i => K i + W i) 0 k ≤ 2097152 ∧ 0 ≤ sm (fun i => (L i : Int)) 0 k ∧ sm (fun i => (L i : Int)) 0 k ≤ 1048576) :
    Calls Try.prog 18 #[.pointer (some ⟨N, 0, none⟩)] w fun e w' => e = .returned (.tuple #[]) ∧ IsNode w' N (sm K 0 m) (sm (fun i => K i + W i) 0 m) (sm (fun i => (L i : Int)) 0 m) m 0 (.slice none 0 0) (.slice (some ⟨g, 0, none⟩) m m) ∧ Gr N w w' := by
  have HN : Hid (IsNode w N l0 l1 l2 cnt dep (.slice none 0 0) (.slice (some ⟨g, 0, none⟩) m m)) := hn
  have H : Hid (BRow w g m A L C K W) := h
  have HB : Hid (∀ i, i < m → 0 ≤ K i ∧ K i ≤ 1048576 ∧ 0 ≤ W i ∧ W i ≤ 1048576) := hb
  have HS : Hid (∀ k, k ≤ m → 0 ≤ sm K 0 k ∧ sm K 0 k ≤ 1048576 ∧ 0 ≤ sm (fun i => K i + W i) 0 k ∧ sm (fun i => K i + W i) 0 k ≤ 2097152 ∧ 0 ≤ sm (fun i => (L i : Int)) 0 k ∧ sm (fun i => (L i : Int)) 0 k ≤ 1048576) := hs
  have HG : Hid (g ≠ N) := hgN
  obtain ⟨n0, n1, n2, n3, n4, n5, n6⟩ := hn.cell
  have hf := hn.free
  clear h hn hb hs hgN
  go_enter Try.func18, Try.ntmps18
  go_wp2_with fail
  have N1 := (HN.out.set012 0 0 0).1.set3 0
  have G1 := gr_trans (HN.out.set012 0 0 0).2 (gr_set N _ 3 (.int .i64 0))
  generalize ((((w.setCell { block := N, off := 0 } (Value.int IntKind.i64 0)).setCell { block := N, off := 1 } (Value.int IntKind.i64 0)).setCell { block := N, off := 2 } (Value.int IntKind.i64 0)).setCell { block := N, off := 3 } (Value.int IntKind.i64 0)) = w1 at *
  clear n0 n1 n2 n3 n4 n5 n6 hf
  have R1 := H.out.kept (G1.block g H.out.low (by simpa using HG.out))
  refine (deepest_leaf N g m A L C K W w1 R1 hm N1.cell.2.2.2.2.2.1 N1.cell.2.2.2.2.2.2 N1.lt).mono ?_
  rintro e w2 ⟨rfl, B2⟩
  have N2 := N1.kept B2
  have G2 := gr_trans G1 (gr_below B2)
  obtain ⟨n0, n1, n2, n3, n4, n5, n6⟩ := N2.cell
  have hf := N2.free
  have N3 := hidden' (N2.set4 0)
  have G3 := hidden' (gr_trans G2 (gr_set N _ 4 (.int .i64 0)))
  clear N1 G1 R1 B2 N2 G2
  go_wp2_with fail
  generalize w2.setCell { block := N, off := 4 } (Value.int IntKind.i64 0) = w3 at *
  clear n0 n1 n2 n3 n4 n5 n6 hf
  obtain ⟨n0, n1, n2, n3, n4, n5, n6⟩ := N3.out.cell
  refine (leaf_any N none 0 0 w3 n5).mono ?_
  rintro e w4 ⟨rfl, rfl⟩
  clear n0 n1 n2 n3 n4 n5
  go_wp2
  clear n6
  go_loopw [25] (fun i wr => ∃ k : Nat, k ≤ m ∧ i = .int .i64 k ∧ Hid (IsNode wr N (sm K 0 k) (sm (fun i => K i + W i) 0 k) (sm (fun i => (L i : Int)) 0 k) 0 0 (.slice none 0 0) (.slice (some ⟨g, 0, none⟩) m m)) ∧ Hid (Gr N w wr)) (fun i _ => m - (intOf i).toNat)
  case atStart => exact ⟨0, Nat.zero_le _, rfl, N3, G3⟩
  case round =>
    obtain ⟨k, hk, rfl, NK, GK⟩ := hrel
    by_cases hlt : k < m
    · have RK := H.out.kept (GK.out.block g H.out.low (by simpa using HG.out))
      have c0 := RK.cells k hlt 0 (by decide)
      have c1 := RK.cells k hlt 1 (by decide)
      have c2 := RK.cells k hlt 2 (by decide)
      have c3 := RK.cells k hlt 3 (by decide)
      have c4 := RK.cells k hlt 4 (by decide)
      have c5 := RK.cells k hlt 5 (by decide)
      have c6 := RK.cells k hlt 6 (by decide)
      have c7 := RK.cells k hlt 7 (by decide)
      simp [blockCells] at c0 c1 c2 c3 c4 c5 c6 c7
      clear RK
      go_wp2
      clear c0 c1 c2 c3 c4 c5 c6 c7
      have BA := (Below.refl wr.heap.size wr).alloc (Nat.le_refl _) (.cells #[.pointer none, .int .i32 0, .int .i32 0, .int .i32 0, .int .i32 0, .slice (A k) (L k) (C k), .int .i32 (K k), .int .i32 (W k)] 55)
      have NA := NK.out.kept BA
      have FA := heap_alloc_new wr (.cells #[.pointer none, .int .i32 0, .int .i32 0, .int .i32 0, .int .i32 0, .slice (A k) (L k) (C k), .int .i32 (K k), .int .i32 (W k)] 55)
      have hNr := NK.out.lt
      generalize wr.alloc (.cells #[.pointer none, .int .i32 0, .int .i32 0, .int .i32 0, .int .i32 0, .slice (A k) (L k) (C k), .int .i32 (K k), .int .i32 (W k)] 55) = wa at *
      have f5 : wa.cell? ⟨wr.heap.size, 5, none⟩ = some (.slice (A k) (L k) (C k)) := by simp [World.cell?, FA]
      have f6 : wa.cell? ⟨wr.heap.size, 6, none⟩ = some (.int .i32 (K k)) := by simp [World.cell?, FA]
      have f7 : wa.cell? ⟨wr.heap.size, 7, none⟩ = some (.int .i32 (W k)) := by simp [World.cell?, FA]
      have hla : wr.heap.size < wa.heap.size := lt_of_block FA
      have GA := hidden' (gr_trans GK.out (gr_below BA))
      have NAH := hidden' NA
      obtain ⟨b1, b2, b3, b4⟩ := HB.out k hlt
      obtain ⟨s1, s2, s3, s4, s5, s6⟩ := HS.out k (by omega)
      obtain ⟨r1, r2, r3, r4, r5, r6⟩ := HS.out (k + 1) (by omega)
      have e1 := hidden' (show sm K 0 (k + 1) = sm K 0 k + K k by simp [sm])
      have e2 := hidden' (show sm (fun i => K i + W i) 0 (k + 1) = sm (fun i => K i + W i) 0 k + (K k + W k) by simp [sm])
      have e3 := hidden' (show sm (fun i => (L i : Int)) 0 (k + 1) = sm (fun i => (L i : Int)) 0 k + (L k : Int) by simp [sm])
      have hL : (L k : Int) ≤ 1048576 := by have := e3.out; omega
      obtain ⟨n0, n1, n2, n3, n4, n5, n6⟩ := NA.cell
      clear n3 n4 n5 n6 FA BA NA NK GK
      generalize sm K 0 k = X0 at *
      generalize sm (fun i => K i + W i) 0 k = X1 at *
      generalize sm (fun i => (L i : Int)) 0 k = X2 at *
      have hNa : N < wa.heap.size := by omega
      go_region_with (first
        | (go_at_call 22; refine (lengths_any wr.heap.size (A k) (L k) (C k) (K k) (W k) _ (by exact f5) (by exact f6) (by exact f7) ⟨b1, b2⟩ ⟨b3, b4⟩ (by exact hla)).mono ?_; rintro e wb ⟨rfl, hb22⟩; have m0 := (hb22.cell (p := ⟨N, 0, none⟩) hNa).trans n0; have m1 := (hb22.cell (p := ⟨N, 1, none⟩) hNa).trans n1; have m2 := (hb22.cell (p := ⟨N, 2, none⟩) hNa).trans n2)
        | (go_at_call 21; refine (plus_any X0 X1 X2 (K k) (K k + W k) (L k) _ (by omega) (by omega)).mono ?_; rintro e wc ⟨rfl, hb21⟩; have NC := ((NAH.out.drew).kept hb22).kept hb21; obtain ⟨t0, t1, t2, t3, t4, t5, t6⟩ := NC.cell; have tf := NC.free; clear t3 t4 t5 t6))
      all_goals
        go_wp2
        go_roundw
        case rel =>
          refine ⟨k + 1, by omega, by go_num, ?_, ?_⟩
          · show IsNode _ _ _ _ _ _ _ _ _
            rw [e1.out, e2.out, e3.out]
            exact (NC.set012 _ _ _).1
          · exact gr_trans (gr_trans (gr_trans (gr_drew GA.out) (gr_below hb22)) (gr_below hb21)) (NC.set012 _ _ _).2
        case measure => simp [intOf]; omega
    · obtain rfl : k = m := by omega
      obtain ⟨n0, n1, n2, n3, n4, n5, n6⟩ := NK.out.cell
      have hf := NK.out.free
      clear n0 n1 n2 n4 n5
      go_wp2
      go_returns
      exact ⟨rfl, NK.out.set3 _, gr_trans GK.out (gr_set N _ 3 _)⟩

end Go.Proofs.Qxb6614769a
