/-
  zzb1Blocks by its contract.
-/
import Derived.Test.Qxb6614769aInner
import Derived.Deep.RegionWith
namespace Go.Proofs.Qxb6614769a
open Go.RowKit

/-- The slice value '.slice a n c' reads, in w, as the one-cell values V. -/
structure VRow (w : World) (a : Option Addr) (n c : Nat) (V : Nat → Value) : Prop where
  cap : n ≤ c
  nil : a = none → n = 0 ∧ c = 0
  cell : ∀ x, a = some x → ∀ i, i < n → w.cell? (x.add i) = some (V i)

theorem block_lt {w : World} {p : Addr} {v : Value} (h : w.cell? p = some v) : p.block < w.heap.size := by
  rcases Nat.lt_or_ge p.block w.heap.size with h' | h'
  · exact h'
  · simp [World.cell?, Array.getElem?_eq_none h'] at h
theorem block_add' (x : Addr) (n : Nat) : (x.add n).block = x.block := by unfold Addr.add; split <;> rfl

theorem VRow.at {w : World} {a : Option Addr} {n c : Nat} {V : Nat → Value} (h : VRow w a n c V) {k : Nat} (hk : k < n) :
    ∃ b off, a = some ⟨b, off, none⟩ ∧ b < w.heap.size ∧ ∀ j, j < n → w.cell? ⟨b, off + j, none⟩ = some (V j) := by
  cases a with
  | none => have := h.nil rfl; omega
  | some x =>
    obtain ⟨b, off, spot⟩ := x
    have h0 := h.cell _ rfl 0 (by omega)
    have hspot : spot = none := by simpa [Addr.add] using World.cell?_spot h0
    subst hspot
    exact ⟨b, off, rfl, by simpa [Addr.add] using block_lt h0, fun j hj => by rw [← Go.WideShapes.add_plain]; exact h.cell _ rfl j hj⟩

theorem VRow.kept {w w' : World} {a : Option Addr} {n c : Nat} {V : Nat → Value} (h : VRow w a n c V) (hb : Below w.heap.size w w') : VRow w' a n c V :=
  ⟨h.cap, h.nil, fun x hx i hi => (hb.cell (block_lt (h.cell x hx i hi))).trans (h.cell x hx i hi)⟩

theorem info55 : (Try.prog.info? 55).map (fun i => (i.zero, i.size, i.bytes)) = some (some (.agg (blockCells none 0 0 0 0)), 8, 56) := by kernel_rfl

theorem made8 {base : Nat} {w : World} {g n : Nat} {cs : List Value} (h : w.ownsRow base 55 8 (.slice (some ⟨g, 0, none⟩) n n) n cs) :
    ∃ cur : Array Value, cur.size = n * 8 ∧ w.heap[g]? = some (.cells cur 55 (0, 0)) := by
  rcases h.2 with ⟨hv, _⟩ | ⟨g', cap, cur, hv, _, hh, _, _, hcs, _⟩
  · simp at hv
  · simp at hv
    obtain ⟨rfl, rfl⟩ := hv
    exact ⟨cur, hcs, hh⟩

theorem store8 {w : World} {g k : Nat} {cur : Array Value} (c0 c1 c2 c3 c4 c5 c6 c7 : Value) (h : w.heap[g]? = some (.cells cur 55 (0, 0))) (hk : k * 8 + 8 ≤ cur.size) :
    ∃ cur' : Array Value, ((((((((w.setCell ⟨g, k * 8, none⟩ c0).setCell ⟨g, k * 8 + 1, none⟩ c1).setCell ⟨g, k * 8 + 2, none⟩ c2).setCell ⟨g, k * 8 + 3, none⟩ c3).setCell ⟨g, k * 8 + 4, none⟩ c4).setCell ⟨g, k * 8 + 5, none⟩ c5).setCell ⟨g, k * 8 + 6, none⟩ c6).setCell ⟨g, k * 8 + 7, none⟩ c7).heap[g]? = some (.cells cur' 55 (0, 0)) ∧
      cur'.size = cur.size ∧ (∀ j, j < 8 → cur'[k * 8 + j]? = #[c0, c1, c2, c3, c4, c5, c6, c7][j]?) ∧ ∀ i, i < k * 8 → cur'[i]? = cur[i]? := by
  refine ⟨_, heap_setCell_same _ g _ _ 55 _ (heap_setCell_same _ g _ _ 55 _ (heap_setCell_same _ g _ _ 55 _ (heap_setCell_same _ g _ _ 55 _ (heap_setCell_same _ g _ _ 55 _ (heap_setCell_same _ g _ _ 55 _ (heap_setCell_same _ g _ _ 55 _ (heap_setCell_same _ g _ _ 55 _ h))))))), by simp, ?_, ?_⟩
  · intro j hj
    match j, hj with
    | 0, _ => simp [Array.getElem?_setIfInBounds]; omega
    | 1, _ => simp [Array.getElem?_setIfInBounds]; omega
    | 2, _ => simp [Array.getElem?_setIfInBounds]; omega
    | 3, _ => simp [Array.getElem?_setIfInBounds]; omega
    | 4, _ => simp [Array.getElem?_setIfInBounds]; omega
    | 5, _ => simp [Array.getElem?_setIfInBounds]; omega
    | 6, _ => simp [Array.getElem?_setIfInBounds]; omega
    | 7, _ => simp [Array.getElem?_setIfInBounds]; omega
  · intro i hi
    simp only [Array.getElem?_setIfInBounds]
    repeat rw [if_neg (by omega)]

theorem newBlock_lit (t : Option Addr) (n c : Nat) (k wd : Int) (w : World) :
    Calls Try.prog 17 #[.slice t n c, .int .i32 k, .int .i32 wd] w fun e w' => e = .returned (.agg #[.pointer none, .int .i32 0, .int .i32 0, .int .i32 0, .int .i32 0, .slice t n c, .int .i32 k, .int .i32 wd]) ∧ Below w.heap.size w w' := newBlock_any t n c k wd w

theorem far (w : World) (g i b o : Nat) (v : Value) (h : b ≠ g) : (w.setCell ⟨g, i, none⟩ v).cell? ⟨b, o, none⟩ = w.cell? ⟨b, o, none⟩ :=
  World.cell?_of_block (w := w) (heap_setCell_other w ⟨g, i, none⟩ b v h)

/-- The eight cells of a place in a row that is known whole, each there and free. -/
theorem eight {w : World} {g k : Nat} {cu : Array Value} (h : w.heap[g]? = some (.cells cu 55 (0, 0))) (hk : k * 8 + 8 ≤ cu.size) :
    (∃ v, w.cell? ⟨g, k * 8, none⟩ = some v) ∧ (∃ v, w.cell? ⟨g, k * 8 + 1, none⟩ = some v) ∧ (∃ v, w.cell? ⟨g, k * 8 + 2, none⟩ = some v) ∧ (∃ v, w.cell? ⟨g, k * 8 + 3, none⟩ = some v) ∧ (∃ v, w.cell? ⟨g, k * 8 + 4, none⟩ = some v) ∧
      (∃ v, w.cell? ⟨g, k * 8 + 5, none⟩ = some v) ∧ (∃ v, w.cell? ⟨g, k * 8 + 6, none⟩ = some v) ∧ (∃ v, w.cell? ⟨g, k * 8 + 7, none⟩ = some v) ∧ ∀ j, w.frozen? ⟨g, j, none⟩ = false := by
  have hc : ∀ j, j < cu.size → ∃ v, w.cell? ⟨g, j, none⟩ = some v := fun j hj => ⟨cu[j], by simp [World.cell?, h, hj]⟩
  exact ⟨hc _ (by omega), hc _ (by omega), hc _ (by omega), hc _ (by omega), hc _ (by omega), hc _ (by omega), hc _ (by omega), hc _ (by omega), fun j => by simp [World.frozen?, h]⟩

set_option maxHeartbeats 3200000 in
theorem blocks_any (at' : Option Addr) (nt ct : Nat) (A : Nat → Option Addr) (L C : Nat → Nat) (an : Option Addr) (nn cn : Nat) (K : Nat → Int) (aw : Option Addr) (nw cw : Nat) (W : Nat → Int) (f t M : Nat) (w : World)
    (ht : VRow w at' nt ct (fun i => .slice (A i) (L i) (C i))) (hn : VRow w an nn cn (fun i => .int .i32 (K i))) (hw : VRow w aw nw cw (fun i => .int .i32 (W i)))
    (hM : f + M = t) (h1 : t ≤ nt) (h2 : t ≤ nn) (h3 : t ≤ nw) (hb : t ≤ 65536) :
    Calls Try.prog 9 #[.slice at' nt ct, .slice an nn cn, .slice aw nw cw, .int .i64 f, .int .i64 t] w fun e w' => e = .returned (.slice (some ⟨w.heap.size, 0, none⟩) M M) ∧
      BRow w' w.heap.size M (fun i => A (f + i)) (fun i => L (f + i)) (fun i => C (f + i)) (fun i => K (f + i)) (fun i => W (f + i)) ∧ Below w.heap.size w w' := by
  obtain ⟨i0, hi, hz0, hz1, hz2⟩ := info_parts info55
  have HT := hidden' ht
  have HNn := hidden' hn
  have HW := hidden' hw
  have HM := hidden' hM
  have hft : f ≤ t := by omega
  have hM1 : t ≤ f + M := by omega
  have hM2 : f + M ≤ t := by omega
  clear ht hn hw hM
  go_enter Try.func9, Try.ntmps9
  go_wp2_with (at_make; refine wpList_make_full _ rfl (.tmp 15) (.tmp 15) 32 rfl w.heap.size 55 i0 (.agg (blockCells none 0 0 0 0)) 8 Try.underlying32 hi hz0 hz1 _ _ _ _ M rfl rfl (by omega) (by omega) (by rw [hz2]; omega) (by unfold maxLen; omega) (Nat.le_refl _) ?_; intro w1 hown hgrow; obtain ⟨cur, hcl, hcur⟩ := made8 hown; have hbel : Below w.heap.size w w1 := (Below.refl _ _).grown hgrow (Nat.le_refl _) (by intro k hk; cases hk); have HC := hidden' hcur; clear hgrow hown hcur)
  go_loopw [12] (fun i wr => ∃ (x k : Nat) (cu : Array Value), i = .int .i64 x ∧ f ≤ x ∧ x ≤ t ∧ Hid (x = f + k) ∧ cu.size = M * 8 ∧ Hid (wr.heap[w.heap.size]? = some (.cells cu 55 (0, 0))) ∧ Hid (∀ i, i < k → ∀ j, j < 8 → cu[i * 8 + j]? = (blockCells (A (f + i)) (L (f + i)) (C (f + i)) (K (f + i)) (W (f + i)))[j]?) ∧ Hid (Below w.heap.size w wr)) (fun i _ => t - (intOf i).toNat)
  case atStart => exact ⟨f, 0, cur, rfl, Nat.le_refl _, hft, rfl, hcl, HC, fun i hi => absurd hi (Nat.not_lt_zero _), hbel⟩
  case round =>
    obtain ⟨x, k, cu, rfl, hfx, hxt, HX, hcs, HCU, HD, HB⟩ := hrel
    by_cases hlt : x < t
    · obtain ⟨bt, ot, rfl, lt1, ct1⟩ := HT.out.at (k := x) (by omega)
      obtain ⟨bn, on, rfl, lt2, ct2⟩ := HNn.out.at (k := x) (by omega)
      obtain ⟨bw, ow, rfl, lt3, ct3⟩ := HW.out.at (k := x) (by omega)
      have r1 := (HB.out.cell (p := ⟨bt, ot + x, none⟩) lt1).trans (ct1 x (by omega))
      have r2 := (HB.out.cell (p := ⟨bn, on + x, none⟩) lt2).trans (ct2 x (by omega))
      have r3 := (HB.out.cell (p := ⟨bw, ow + x, none⟩) lt3).trans (ct3 x (by omega))
      clear ct1 ct2 ct3
      have hlr := lt_of_block HCU.out
      have hsz := HB.out.size
      have u1 : bt < wr.heap.size := by omega
      have u2 : bn < wr.heap.size := by omega
      have u3 : bw < wr.heap.size := by omega
      have v1 : bt ≠ w.heap.size := by omega
      have v2 : bn ≠ w.heap.size := by omega
      have v3 : bw ≠ w.heap.size := by omega
      have hl1 : x < nt := by omega
      have hl2 : x < nn := by omega
      have hl3 : x < nw := by omega
      have hxk := HX.out
      have hl4 : k < M := by omega
      have hl5 : (k : Int) < (M : Int) := by omega
      have hl6 : (0 : Int) ≤ (k : Int) := by omega
      have hsub : (x : Int) - (f : Int) = (k : Int) := by omega
      have hcc : k * 8 + 8 ≤ cu.size := by omega
      have hwk : IntKind.i64.wrap (k : Int) = (k : Int) := IntWalk.i64_in _ (by omega)
      clear hxk
      go_wp2
      go_region_held3 (fun w' => w'.cell? ⟨bt, ot + x, none⟩ = some (.slice (A x) (L x) (C x)) ∧ w'.cell? ⟨bn, on + x, none⟩ = some (.int .i32 (K x)) ∧ w'.cell? ⟨bw, ow + x, none⟩ = some (.int .i32 (W x))) (first | go_keep | (refine ⟨?_, ?_, ?_⟩; (rw [far _ _ _ _ _ _ v1, far _ _ _ _ _ _ v1, far _ _ _ _ _ _ v1, far _ _ _ _ _ _ v1, far _ _ _ _ _ _ v1, far _ _ _ _ _ _ v1, far _ _ _ _ _ _ v1, far _ _ _ _ _ _ v1]; exact p1); (rw [far _ _ _ _ _ _ v2, far _ _ _ _ _ _ v2, far _ _ _ _ _ _ v2, far _ _ _ _ _ _ v2, far _ _ _ _ _ _ v2, far _ _ _ _ _ _ v2, far _ _ _ _ _ _ v2, far _ _ _ _ _ _ v2]; exact p2); (rw [far _ _ _ _ _ _ v3, far _ _ _ _ _ _ v3, far _ _ _ _ _ _ v3, far _ _ _ _ _ _ v3, far _ _ _ _ _ _ v3, far _ _ _ _ _ _ v3, far _ _ _ _ _ _ v3, far _ _ _ _ _ _ v3]; exact p3)))
        (first
          | (go_at_call 17; refine (newBlock_lit (A x) (L x) (C x) (K x) (W x) _).mono ?_; rintro e wb ⟨rfl, hb17⟩; have HH := hidden' ((hb17.block _ hlr).trans HCU.out); obtain ⟨⟨y0, yc0⟩, ⟨y1, yc1⟩, ⟨y2, yc2⟩, ⟨y3, yc3⟩, ⟨y4, yc4⟩, ⟨y5, yc5⟩, ⟨y6, yc6⟩, ⟨y7, yc7⟩, yf⟩ := eight HH.out hcc; have p1 := (hb17.cell (p := ⟨bt, ot + x, none⟩) u1).trans r1; have p2 := (hb17.cell (p := ⟨bn, on + x, none⟩) u2).trans r2; have p3 := (hb17.cell (p := ⟨bw, ow + x, none⟩) u3).trans r3))
      obtain ⟨cu', d1, d2, d3, d4⟩ := store8 (.pointer none) (.int .i32 0) (.int .i32 0) (.int .i32 0) (.int .i32 0) (.slice (A x) (L x) (C x)) (.int .i32 (K x)) (.int .i32 (W x)) HH.out hcc
      have BX : Below w.heap.size w wb := HB.out.drew.trans (hb17.mono (by simp; omega))
      have BY := (((((((BX.setCell (p := ⟨w.heap.size, k * 8, none⟩) (Nat.le_refl _) (.pointer none)).setCell (p := ⟨w.heap.size, k * 8 + 1, none⟩) (Nat.le_refl _) (.int .i32 0)).setCell (p := ⟨w.heap.size, k * 8 + 2, none⟩) (Nat.le_refl _) (.int .i32 0)).setCell (p := ⟨w.heap.size, k * 8 + 3, none⟩) (Nat.le_refl _) (.int .i32 0)).setCell (p := ⟨w.heap.size, k * 8 + 4, none⟩) (Nat.le_refl _) (.int .i32 0)).setCell (p := ⟨w.heap.size, k * 8 + 5, none⟩) (Nat.le_refl _) (.slice (A x) (L x) (C x))).setCell (p := ⟨w.heap.size, k * 8 + 6, none⟩) (Nat.le_refl _) (.int .i32 (K x))).setCell (p := ⟨w.heap.size, k * 8 + 7, none⟩) (Nat.le_refl _) (.int .i32 (W x))
      generalize ((((((((wb.setCell ⟨w.heap.size, k * 8, none⟩ (.pointer none)).setCell ⟨w.heap.size, k * 8 + 1, none⟩ (.int .i32 0)).setCell ⟨w.heap.size, k * 8 + 2, none⟩ (.int .i32 0)).setCell ⟨w.heap.size, k * 8 + 3, none⟩ (.int .i32 0)).setCell ⟨w.heap.size, k * 8 + 4, none⟩ (.int .i32 0)).setCell ⟨w.heap.size, k * 8 + 5, none⟩ (.slice (A x) (L x) (C x))).setCell ⟨w.heap.size, k * 8 + 6, none⟩ (.int .i32 (K x))).setCell ⟨w.heap.size, k * 8 + 7, none⟩ (.int .i32 (W x))) = wz at *
      have D1 := hidden' d1
      have D3 : Hid (∀ i, i < k + 1 → ∀ j, j < 8 → cu'[i * 8 + j]? = (blockCells (A (f + i)) (L (f + i)) (C (f + i)) (K (f + i)) (W (f + i)))[j]?) := by
        intro i hi j hj
        rcases Nat.lt_or_ge i k with h' | h'
        · rw [d4 _ (by omega)]; exact HD.out i h' j hj
        · obtain rfl : i = k := by omega
          rw [d3 j hj, ← HX.out]; rfl
      clear d1 d3 d4 yc0 yc1 yc2 yc3 yc4 yc5 yc6 yc7 yf p1 p2 p3 r1 r2 r3
      go_wp2
      go_roundw
      case rel => exact ⟨x + 1, k + 1, cu', by go_num, by omega, by omega, by show _ = _; rw [HX.out]; omega, by omega, D1, D3, BY⟩
      case measure => simp [intOf]; omega
    · go_wp2
      go_ret
      have hkm : k = M := by have := HX.out; omega
      refine ⟨rfl, ⟨fun i hi j hj => ?_, lt_of_block HCU.out⟩, HB.out⟩
      rw [← HD.out i (by omega) j hj]
      simp [World.cell?, HCU.out]

end Go.Proofs.Qxb6614769a
