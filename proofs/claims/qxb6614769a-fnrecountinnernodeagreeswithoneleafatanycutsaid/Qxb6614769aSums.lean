/-
  THE PLAIN LAW: sums cut in two; the bounds that a recount asks.
-/
import Derived.Test.Qxb6614769aCopy
namespace Go.Proofs.Qxb6614769a
open Go.RowKit

theorem sm_split (f : Nat → Int) (a m : Nat) : sm f 0 (a + m) = sm f 0 a + sm (fun i => f (a + i)) 0 m := by
  induction m with
  | zero => simp [sm]
  | succ m ih => rw [← Nat.add_assoc]; simp only [sm, ih, Nat.zero_add]; omega
theorem sm_shift0 (f : Nat → Int) (n : Nat) : sm (fun i => f (0 + i)) 0 n = sm f 0 n := by simp

/-- What a recount of the blocks from f on, m of them, asks of the counts. -/
theorem recount_bounds {nt nn nw : Nat} {L : Nat → Nat} {K W : Nat → Int} {x0 x1 x2 : Int} (G : Good nt nn nw L K W x0 x1 x2) (hL : ∀ i, i < nt → L i ≤ 1048576) (hs : sm (fun i => (L i : Int)) 0 nt ≤ 1048576) (f m : Nat) (hfm : f + m ≤ nt) :
    (∀ i, i < m → 0 ≤ K (f + i) ∧ K (f + i) ≤ 1048576 ∧ 0 ≤ W (f + i) ∧ W (f + i) ≤ 1048576) ∧
    (∀ k, k ≤ m → 0 ≤ sm (fun i => K (f + i)) 0 k ∧ sm (fun i => K (f + i)) 0 k ≤ 1048576 ∧ 0 ≤ sm (fun i => K (f + i) + W (f + i)) 0 k ∧ sm (fun i => K (f + i) + W (f + i)) 0 k ≤ 2097152 ∧
      0 ≤ sm (fun i => (L (f + i) : Int)) 0 k ∧ sm (fun i => (L (f + i) : Int)) 0 k ≤ 1048576) := by
  constructor
  · intro i hi
    have b := G.bd (f + i) (by omega)
    have l := hL (f + i) (by omega)
    omega
  · intro k hk
    have h1 := sm_split (fun i => (L i : Int)) f k
    have h2 := sm_mono L 0 (f + k) nt (by omega)
    have h3 := sm_nat L 0 f
    have h4 := sm_nonneg (fun i => (L (f + i) : Int)) 0 k (fun i _ => by omega)
    have h5 := sm_le (fun i => K (f + i)) (fun i => (L (f + i) : Int)) 0 k (fun i hi => by have := (G.bd (f + (0 + i)) (by omega)).2.1; exact this)
    have h6 := sm_nonneg (fun i => K (f + i)) 0 k (fun i hi => (G.bd (f + (0 + i)) (by omega)).1)
    have h7 := sm_nonneg (fun i => W (f + i)) 0 k (fun i hi => (G.bd (f + (0 + i)) (by omega)).2.2.1)
    have h8 := sm_le (fun i => W (f + i)) (fun i => K (f + i)) 0 k (fun i hi => (G.bd (f + (0 + i)) (by omega)).2.2.2)
    have h9 := sm_add (fun i => K (f + i)) (fun i => W (f + i)) 0 k
    omega

theorem recount_bounds0 {nt nn nw : Nat} {L : Nat → Nat} {K W : Nat → Int} {x0 x1 x2 : Int} (G : Good nt nn nw L K W x0 x1 x2) (hL : ∀ i, i < nt → L i ≤ 1048576) (hs : sm (fun i => (L i : Int)) 0 nt ≤ 1048576) (m : Nat) (hm : m ≤ nt) :
    (∀ i, i < m → 0 ≤ K i ∧ K i ≤ 1048576 ∧ 0 ≤ W i ∧ W i ≤ 1048576) ∧
    (∀ k, k ≤ m → 0 ≤ sm K 0 k ∧ sm K 0 k ≤ 1048576 ∧ 0 ≤ sm (fun i => K i + W i) 0 k ∧ sm (fun i => K i + W i) 0 k ≤ 2097152 ∧ 0 ≤ sm (fun i => (L i : Int)) 0 k ∧ sm (fun i => (L i : Int)) 0 k ≤ 1048576) := by
  have := recount_bounds G hL hs 0 m (by omega)
  simpa using this

theorem gr_lt {N : Nat} {w w' : World} (h : Gr N w w') : w.heap.size ≤ w'.heap.size := h.size

theorem IsNode.gr {w w' : World} {N M : Nat} {l0 l1 l2 cnt dep : Int} {ch bl : Value} (h : IsNode w M l0 l1 l2 cnt dep ch bl) (hg : Gr N w w') (hne : M ≠ N) : IsNode w' M l0 l1 l2 cnt dep ch bl := by
  unfold IsNode; rw [hg.block M h.lt (by simpa using hne)]; exact h

theorem gr_base {N base : Nat} {w w' : World} (h : Gr N w w') (hN : base ≤ N) (hb : base ≤ w.heap.size) : Below base w w' :=
  ⟨h.os, h.tape, h.output, h.size, fun k hk => h.block k (by omega) (by simp; omega)⟩

theorem node_new (w : World) (l0 l1 l2 cnt dep : Int) (ch bl : Value) : IsNode (w.alloc (.cells (nodeCells l0 l1 l2 cnt dep ch bl) 47)) w.heap.size l0 l1 l2 cnt dep ch bl := heap_alloc_new w _

theorem bel_alloc (w : World) (o : Obj) : Below w.heap.size w (w.alloc o) := (Below.refl _ _).alloc (Nat.le_refl _) o

theorem BRow.below {w w' : World} {g m : Nat} {A : Nat → Option Addr} {L C : Nat → Nat} {K W : Nat → Int} (h : BRow w g m A L C K W) (hb : Below w.heap.size w w') : BRow w' g m A L C K W := h.kept (hb.block g h.low)

/-- The inner node's row of children, and the node itself, just made. -/
theorem kids_new (w : World) (N2 N3 : Nat) (a0 a1 a2 ac b0 b1 b2 bc : Int) (ch1 bl1 ch2 bl2 : Value) (h2 : IsNode w N2 a0 a1 a2 ac 0 ch1 bl1) (h3 : IsNode w N3 b0 b1 b2 bc 0 ch2 bl2) (x : World)
    (hx : x = (w.alloc (.cells #[.pointer (some ⟨N2, 0, none⟩), .pointer (some ⟨N3, 0, none⟩)] 30)).alloc (.cells (nodeCells 0 0 0 0 0 (.slice (some ⟨w.heap.size, 0, none⟩) 2 2) (.slice none 0 0)) 47)) :
    Below w.heap.size w x ∧ IsNode x (w.heap.size + 1) 0 0 0 0 0 (.slice (some ⟨w.heap.size, 0, none⟩) 2 2) (.slice none 0 0) ∧
      Kids x (w.heap.size + 1) w.heap.size (fun j => if j = 0 then N2 else N3) (fun j => if j = 0 then a0 else b0) (fun j => if j = 0 then a1 else b1) (fun j => if j = 0 then a2 else b2) (fun j => if j = 0 then ac else bc) := by
  have hB : Below w.heap.size w x := by rw [hx]; exact ((Below.refl _ _).alloc (Nat.le_refl _) _).alloc (by simp) _
  have hN : IsNode x (w.heap.size + 1) 0 0 0 0 0 (.slice (some ⟨w.heap.size, 0, none⟩) 2 2) (.slice none 0 0) := by
    have := node_new (w.alloc (.cells #[.pointer (some ⟨N2, 0, none⟩), .pointer (some ⟨N3, 0, none⟩)] 30)) 0 0 0 0 0 (.slice (some ⟨w.heap.size, 0, none⟩) 2 2) (.slice none 0 0)
    rw [hx]; simpa using this
  have hR : x.heap[w.heap.size]? = some (.cells #[.pointer (some ⟨N2, 0, none⟩), .pointer (some ⟨N3, 0, none⟩)] 30 (0, 0)) := by
    rw [hx, Below.heap_alloc _ _ _ (by simp)]; exact heap_alloc_new w _
  obtain ⟨e0, e1, e2, e3, e4, _, _⟩ := (h2.kept hB).cell
  obtain ⟨f0, f1, f2, f3, f4, _, _⟩ := (h3.kept hB).cell
  have l2 := h2.lt
  have l3 := h3.lt
  have ls := hB.size
  refine ⟨hB, hN, ⟨?_, ?_, ?_, ?_, ?_, ?_, ?_, ⟨by omega, lt_of_block hR⟩⟩⟩
  all_goals
    intro j hj
    match j, hj with
    | 0, _ => first | (simp [World.cell?, hR]; done) | simpa using e0 | simpa using e1 | simpa using e2 | simpa using e3 | simpa using e4 | (refine ⟨?_, ?_⟩ <;> simp <;> omega)
    | 1, _ => first | (simp [World.cell?, hR]; done) | simpa using f0 | simpa using f1 | simpa using f2 | simpa using f3 | simpa using f4 | (refine ⟨?_, ?_⟩ <;> simp <;> omega)

/-- zzb1Blocks from the first block on. -/
theorem blocks_zero (at' : Option Addr) (nt ct : Nat) (A : Nat → Option Addr) (L C : Nat → Nat) (an : Option Addr) (nn cn : Nat) (K : Nat → Int) (aw : Option Addr) (nw cw : Nat) (W : Nat → Int) (t : Nat) (w : World)
    (ht : VRow w at' nt ct (fun i => .slice (A i) (L i) (C i))) (hn : VRow w an nn cn (fun i => .int .i32 (K i))) (hw : VRow w aw nw cw (fun i => .int .i32 (W i)))
    (h1 : t ≤ nt) (h2 : t ≤ nn) (h3 : t ≤ nw) (hb : t ≤ 65536) :
    Calls Try.prog 9 #[.slice at' nt ct, .slice an nn cn, .slice aw nw cw, .int .i64 0, .int .i64 t] w fun e w' => e = .returned (.slice (some ⟨w.heap.size, 0, none⟩) t t) ∧
      BRow w' w.heap.size t A L C K W ∧ Below w.heap.size w w' := by
  have := blocks_any at' nt ct A L C an nn cn K aw nw cw W 0 t t w ht hn hw (by omega) h1 h2 h3 hb
  simpa using this

end Go.Proofs.Qxb6614769a
