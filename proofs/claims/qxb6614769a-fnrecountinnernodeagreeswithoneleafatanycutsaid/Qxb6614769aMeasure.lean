/-
  zzb1Measure by its contract.
-/
import Derived.Test.Qxb6614769aDecode
namespace Go.Proofs.Qxb6614769a
open Go.RowKit

/-- A block of three ints. -/
def IsTri (w : World) (B : Nat) (x0 x1 x2 : Int) : Prop := w.heap[B]? = some (.cells #[.int .i64 x0, .int .i64 x1, .int .i64 x2] 26 (0, 0))
section
variable {w w' : World} {B : Nat} {x0 x1 x2 : Int}
theorem IsTri.cell (h : IsTri w B x0 x1 x2) : w.cell? ⟨B, 0, none⟩ = some (.int .i64 x0) ∧ w.cell? ⟨B, 1, none⟩ = some (.int .i64 x1) ∧ w.cell? ⟨B, 2, none⟩ = some (.int .i64 x2) := by
  unfold IsTri at h; simp [World.cell?, h]
theorem IsTri.free (h : IsTri w B x0 x1 x2) (j : Nat) : w.frozen? ⟨B, j, none⟩ = false := by
  unfold IsTri at h; simp [World.frozen?, h]
theorem IsTri.lt (h : IsTri w B x0 x1 x2) : B < w.heap.size := lt_of_block h
theorem IsTri.kept (h : IsTri w B x0 x1 x2) (hb : Below w.heap.size w w') : IsTri w' B x0 x1 x2 := by
  unfold IsTri; rw [hb.block B h.lt]; exact h
theorem IsTri.set0 (h : IsTri w B x0 x1 x2) (x : Int) : IsTri (w.setCell ⟨B, 0, none⟩ (.int .i64 x)) B x x1 x2 := heap_setCell_same w B 0 _ 26 _ h
theorem IsTri.set1 (h : IsTri w B x0 x1 x2) (x : Int) : IsTri (w.setCell ⟨B, 1, none⟩ (.int .i64 x)) B x0 x x2 := heap_setCell_same w B 1 _ 26 _ h
theorem IsTri.set2 (h : IsTri w B x0 x1 x2) (x : Int) : IsTri (w.setCell ⟨B, 2, none⟩ (.int .i64 x)) B x0 x1 x := heap_setCell_same w B 2 _ 26 _ h
theorem IsTri.other (h : IsTri w B x0 x1 x2) {g j : Nat} (hne : B ≠ g) (u : Value) : IsTri (w.setCell ⟨g, j, none⟩ u) B x0 x1 x2 := by
  unfold IsTri; rw [heap_setCell_other w ⟨g, j, none⟩ B u hne]; exact h
theorem IsTri.drew (h : IsTri w B x0 x1 x2) : IsTri w.drew B x0 x1 x2 := h
end

/-- The texts, whole: the outer row, and each text's bytes. -/
structure Texts (w : World) (a : Option Addr) (n c : Nat) (A : Nat → Option Addr) (L C : Nat → Nat) (Z : Nat → Nat → Int) : Prop where
  row : VRow w a n c (fun i => .slice (A i) (L i) (C i))
  each : ∀ i, i < n → VRow w (A i) (L i) (C i) (fun j => .int .u8 (Z i j))
  byte : ∀ i, i < n → ∀ j, j < L i → 0 ≤ Z i j ∧ Z i j ≤ 255

theorem Texts.kept {w w' : World} {a : Option Addr} {n c : Nat} {A : Nat → Option Addr} {L C : Nat → Nat} {Z : Nat → Nat → Int} (h : Texts w a n c A L C Z) (hb : Below w.heap.size w w') : Texts w' a n c A L C Z :=
  ⟨h.row.kept hb, fun i hi => (h.each i hi).kept hb, h.byte⟩

/-- What a good measure says. -/
structure Good (nt nn nw : Nat) (L : Nat → Nat) (K W : Nat → Int) (x0 x1 x2 : Int) : Prop where
  n1 : nn = nt
  n2 : nw = nt
  bd : ∀ i, i < nt → 0 ≤ K i ∧ K i ≤ L i ∧ 0 ≤ W i ∧ W i ≤ K i
  s0 : x0 = sm K 0 nt
  s1 : x1 = sm (fun i => K i + W i) 0 nt
  s2 : x2 = sm (fun i => (L i : Int)) 0 nt

def Measured (P : Int → Int → Int → Prop) (e : Ending) : Prop := ∃ (x0 x1 x2 : Int) (b : Bool), e = .returned (.tuple #[.agg #[.int .i64 x0, .int .i64 x1, .int .i64 x2], .bool b]) ∧ (b = true → P x0 x1 x2)
theorem measured_no {P : Int → Int → Int → Prop} (x0 x1 x2 : Int) : Measured P (.returned (.tuple #[.agg #[.int .i64 x0, .int .i64 x1, .int .i64 x2], .bool false])) := ⟨x0, x1, x2, false, rfl, fun h => by cases h⟩
theorem measured_yes {P : Int → Int → Int → Prop} {x0 x1 x2 : Int} (h : P x0 x1 x2) : Measured P (.returned (.tuple #[.agg #[.int .i64 x0, .int .i64 x1, .int .i64 x2], .bool true])) := ⟨x0, x1, x2, true, rfl, fun _ => h⟩

theorem sm_mono (L : Nat → Nat) (a k n : Nat) (h : k ≤ n) : sm (fun i => (L i : Int)) a k ≤ sm (fun i => (L i : Int)) a n := by
  induction n with
  | zero => have : k = 0 := by omega
            subst this; exact Int.le_refl _
  | succ n ih =>
    rcases Nat.lt_or_ge k (n + 1) with h' | h'
    · have := ih (by omega); simp only [sm]; omega
    · have : k = n + 1 := by omega
      subst this; exact Int.le_refl _

theorem sm_le (f g : Nat → Int) (a k : Nat) (h : ∀ i, i < k → f (a + i) ≤ g (a + i)) : sm f a k ≤ sm g a k := by
  induction k with
  | zero => simp [sm]
  | succ k ih => have := ih (fun i hi => h i (by omega)); have := h k (by omega); simp only [sm]; omega
theorem sm_nonneg (f : Nat → Int) (a k : Nat) (h : ∀ i, i < k → 0 ≤ f (a + i)) : 0 ≤ sm f a k := by
  induction k with
  | zero => simp [sm]
  | succ k ih => have := ih (fun i hi => h i (by omega)); have := h k (by omega); simp only [sm]; omega
theorem sm_add (f g : Nat → Int) (a k : Nat) : sm (fun i => f i + g i) a k = sm f a k + sm g a k := by
  induction k with
  | zero => simp [sm]
  | succ k ih => simp only [sm, ih]; omega

theorem tri_first (w : World) : IsTri ((w.alloc (.cells #[.int .i64 0, .int .i64 0, .int .i64 0] 26)).alloc (.cells #[.int .i64 0, .int .i64 0, .int .i64 0] 26)) w.heap.size 0 0 0 := by
  unfold IsTri
  rw [Below.heap_alloc _ _ _ (by simp)]
  exact heap_alloc_new w _
theorem tri_second (w : World) : IsTri ((w.alloc (.cells #[.int .i64 0, .int .i64 0, .int .i64 0] 26)).alloc (.cells #[.int .i64 0, .int .i64 0, .int .i64 0] 26)) (w.heap.size + 1) 0 0 0 := by
  have := heap_alloc_new (w.alloc (.cells #[.int .i64 0, .int .i64 0, .int .i64 0] 26)) (.cells #[.int .i64 0, .int .i64 0, .int .i64 0] 26)
  simpa [IsTri] using this

set_option maxHeartbeats 4000000 in
theorem measure_any (at' : Option Addr) (nt ct : Nat) (A : Nat → Option Addr) (L C : Nat → Nat) (Z : Nat → Nat → Int) (an : Option Addr) (nn cn : Nat) (K : Nat → Int) (aw : Option Addr) (nw cw : Nat) (W : Nat → Int) (w : World)
    (ht : Texts w at' nt ct A L C Z) (hn : VRow w an nn cn (fun i => .int .i32 (K i))) (hw : VRow w aw nw cw (fun i => .int .i32 (W i)))
    (hK : ∀ i, -2147483648 ≤ K i ∧ K i ≤ 2147483647) (hW : ∀ i, -2147483648 ≤ W i ∧ W i ≤ 2147483647) (hL : ∀ i, i < nt → L i ≤ 1048576) (hs : sm (fun i => (L i : Int)) 0 nt ≤ 1048576) (hb : nt ≤ 65536) :
    Calls Try.prog 6 #[.slice at' nt ct, .slice an nn cn, .slice aw nw cw] w fun e w' => Measured (Good nt nn nw L K W) e ∧ Below w.heap.size w w' := by
  have HT := hidden' ht
  have HNn := hidden' hn
  have HW := hidden' hw
  have HK := hidden' hK
  have HWW := hidden' hW
  have HL := hidden' hL
  have HS := hidden' hs
  clear ht hn hw hK hW hL hs
  by_cases e1 : nn = nt
  · by_cases e2 : nw = nt
    · subst e1
      subst e2
      go_enter Try.func6, Try.ntmps6
      go_wp2
      have T0 : Hid (IsTri ((w.alloc (.cells #[.int .i64 0, .int .i64 0, .int .i64 0] 26)).alloc (.cells #[.int .i64 0, .int .i64 0, .int .i64 0] 26)) w.heap.size 0 0 0) := tri_first w
      have T1 : Hid (IsTri ((w.alloc (.cells #[.int .i64 0, .int .i64 0, .int .i64 0] 26)).alloc (.cells #[.int .i64 0, .int .i64 0, .int .i64 0] 26)) (w.heap.size + 1) 0 0 0) := tri_second w
      have B0 : Hid (Below w.heap.size w ((w.alloc (.cells #[.int .i64 0, .int .i64 0, .int .i64 0] 26)).alloc (.cells #[.int .i64 0, .int .i64 0, .int .i64 0] 26))) := ((Below.refl _ _).alloc (Nat.le_refl _) _).alloc (by simp) _
      go_loopw [9] (fun i wr => ∃ k : Nat, k ≤ nw ∧ i = .int .i64 k ∧ Hid (IsTri wr (w.heap.size + 1) (sm K 0 k) (sm (fun i => K i + W i) 0 k) (sm (fun i => (L i : Int)) 0 k)) ∧ Hid (IsTri wr w.heap.size 0 0 0) ∧ Hid (∀ j, j < k → 0 ≤ K j ∧ K j ≤ L j ∧ 0 ≤ W j ∧ W j ≤ K j) ∧ Hid (Below w.heap.size w wr)) (fun i _ => nw - (intOf i).toNat)
      case atStart => exact ⟨0, Nat.zero_le _, rfl, T1, T0, fun j hj => absurd hj (Nat.not_lt_zero _), B0⟩
      case round =>
        obtain ⟨k, hk, rfl, TK, TZ, HA, HB⟩ := hrel
        have hsz := HB.out.size
        obtain ⟨a0, a1, a2⟩ := TK.out.cell
        obtain ⟨z0, z1, z2⟩ := TZ.out.cell
        have fz := TZ.out.free
        by_cases hlt : k < nw
        · obtain ⟨bt, ot, rfl, lt1, ct1⟩ := HT.out.row.at hlt
          obtain ⟨bn, on, rfl, lt2, ct2⟩ := HNn.out.at hlt
          obtain ⟨bw, ow, rfl, lt3, ct3⟩ := HW.out.at hlt
          have r1 := (HB.out.cell (p := ⟨bt, ot + k, none⟩) lt1).trans (ct1 k hlt)
          have r2 := (HB.out.cell (p := ⟨bn, on + k, none⟩) lt2).trans (ct2 k hlt)
          have r3 := (HB.out.cell (p := ⟨bw, ow + k, none⟩) lt3).trans (ct3 k hlt)
          obtain ⟨k1, k2⟩ := HK.out k
          obtain ⟨k3, k4⟩ := HWW.out k
          clear ct1 ct2 ct3
          go_wp2_with fail
          refine (decode_any (A k) (L k) (C k) (Z k) wr ((HT.out.each k hlt).kept HB.out) (HT.out.byte k hlt) (HL.out k hlt)).mono ?_
          rintro e w1 ⟨⟨cc, dd, bb, rfl, hcc, hdd⟩, rfl⟩
          cases bb with
          | false =>
            go_wp2
            exact bodyPost_ret (v := .tuple #[.agg #[.int .i64 (sm K 0 k), .int .i64 (sm (fun i => K i + W i) 0 k), .int .i64 (sm (fun i => (L i : Int)) 0 k)], .bool false]) (by simp [results, Try.results6, go_sem, z0, z1, z2]) rfl ⟨measured_no _ _ _, ((HB.out.setCell (Nat.le_refl _) _).setCell (Nat.le_refl _) _).setCell (Nat.le_refl _) _⟩
          | true =>
            by_cases q1 : K k = cc
            · have q1' : (K k != (cc : Int)) = false := by rw [q1]; simp
              by_cases q2 : W k = dd
              · have q2' : (W k != (dd : Int)) = false := by rw [q2]; simp
                have m1 := sm_mono L 0 k nw hk
                have m2 := sm_le K (fun i => (L i : Int)) 0 k (fun i hi => by rw [Nat.zero_add]; exact (HA.out i hi).2.1)
                have m3 := sm_nonneg K 0 k (fun i hi => by rw [Nat.zero_add]; exact (HA.out i hi).1)
                have m4 := sm_nonneg W 0 k (fun i hi => by rw [Nat.zero_add]; exact (HA.out i hi).2.2.1)
                have m5 := sm_le W K 0 k (fun i hi => by rw [Nat.zero_add]; exact (HA.out i hi).2.2.2)
                have m6 := sm_add K W 0 k
                have m7 := HS.out
                have m8 := sm_nat L 0 k
                have m9 := HL.out k hlt
                have t1 := hidden' (show sm K 0 (k + 1) = sm K 0 k + (cc : Int) by simp [sm, q1])
                have t2 := hidden' (show sm (fun i => K i + W i) 0 (k + 1) = sm (fun i => K i + W i) 0 k + ((cc : Int) + (dd : Int)) by simp [sm, q1, q2])
                have t3 := hidden' (show sm (fun i => (L i : Int)) 0 (k + 1) = sm (fun i => (L i : Int)) 0 k + (L k : Int) by simp [sm])
                have HAK : Hid (∀ j, j < k + 1 → 0 ≤ K j ∧ K j ≤ L j ∧ 0 ≤ W j ∧ W j ≤ K j) := below_succ HA.out (by rw [q1, q2]; omega)
                have b1 : 0 ≤ sm K 0 k ∧ sm K 0 k ≤ 1048576 := by omega
                have b2 : 0 ≤ sm (fun i => K i + W i) 0 k ∧ sm (fun i => K i + W i) 0 k ≤ 2097152 := by omega
                have b3 : 0 ≤ sm (fun i => (L i : Int)) 0 k ∧ sm (fun i => (L i : Int)) 0 k ≤ 1048576 := by omega
                have hne : bt ≠ w.heap.size + 1 := by omega
                have f1 := TK.out.free
                clear m1 m2 m3 m4 m5 m6 m7 m8 q1 q2 HA
                generalize sm K 0 k = X0 at *
                generalize sm (fun i => K i + W i) 0 k = X1 at *
                generalize sm (fun i => (L i : Int)) 0 k = X2 at *
                obtain ⟨b11, b12⟩ := b1
                obtain ⟨b21, b22⟩ := b2
                obtain ⟨b31, b32⟩ := b3
                go_wp2
                have U1 := hidden' ((TK.out.set0 (X0 + (cc : Int))).set1 (X1 + ((cc : Int) + (dd : Int))))
                have U2 : Hid (IsTri ((wr.setCell ⟨w.heap.size + 1, 0, none⟩ (.int .i64 (X0 + (cc : Int)))).setCell ⟨w.heap.size + 1, 1, none⟩ (.int .i64 (X1 + ((cc : Int) + (dd : Int))))) w.heap.size 0 0 0) := (TZ.out.other (by omega) _).other (by omega) _
                have U3 := hidden' ((HB.out.setCell (p := ⟨w.heap.size + 1, 0, none⟩) (by simp) (.int .i64 (X0 + (cc : Int)))).setCell (p := ⟨w.heap.size + 1, 1, none⟩) (by simp) (.int .i64 (X1 + ((cc : Int) + (dd : Int)))))
                have r4 : ((wr.setCell ⟨w.heap.size + 1, 0, none⟩ (.int .i64 (X0 + (cc : Int)))).setCell ⟨w.heap.size + 1, 1, none⟩ (.int .i64 (X1 + ((cc : Int) + (dd : Int))))).cell? ⟨bt, ot + k, none⟩ = some (.slice (A k) (L k) (C k)) := by
                  rw [far _ _ _ _ _ _ hne, far _ _ _ _ _ _ hne]; exact r1
                clear r1 r2 r3 a0 a1 a2 z0 z1 z2 fz f1 q1' q2'
                generalize (wr.setCell ⟨w.heap.size + 1, 0, none⟩ (.int .i64 (X0 + (cc : Int)))).setCell ⟨w.heap.size + 1, 1, none⟩ (.int .i64 (X1 + ((cc : Int) + (dd : Int)))) = wz at *
                obtain ⟨a0, a1, a2⟩ := U1.out.cell
                have f1 := U1.out.free
                clear a0 a1
                go_region
                all_goals
                  go_wp2
                  go_roundw
                  case rel =>
                    refine ⟨k + 1, by omega, by go_num, ?_, ?_, HAK, ?_⟩
                    · show IsTri _ _ _ _ _
                      rw [t1.out, t2.out, t3.out]
                      exact U1.out.drew.set2 _
                    · exact U2.out.drew.other (by omega) _
                    · exact U3.out.drew.setCell (by simp) _
                  case measure => simp [intOf]; omega
              · have q2' : (W k != (dd : Int)) = true := by rw [bne_iff_ne]; exact q2
                have HQ := hidden' q1
                have HQ2 := hidden' q2
                clear q1 q2
                go_wp2
                exact bodyPost_ret (v := .tuple #[.agg #[.int .i64 (sm K 0 k), .int .i64 (sm (fun i => K i + W i) 0 k), .int .i64 (sm (fun i => (L i : Int)) 0 k)], .bool false]) (by simp [results, Try.results6, go_sem, z0, z1, z2]) rfl ⟨measured_no _ _ _, ((HB.out.setCell (Nat.le_refl _) _).setCell (Nat.le_refl _) _).setCell (Nat.le_refl _) _⟩
            · have q1' : (K k != (cc : Int)) = true := by rw [bne_iff_ne]; exact q1
              have HQ := hidden' q1
              clear q1
              go_wp2
              exact bodyPost_ret (v := .tuple #[.agg #[.int .i64 (sm K 0 k), .int .i64 (sm (fun i => K i + W i) 0 k), .int .i64 (sm (fun i => (L i : Int)) 0 k)], .bool false]) (by simp [results, Try.results6, go_sem, z0, z1, z2]) rfl ⟨measured_no _ _ _, ((HB.out.setCell (Nat.le_refl _) _).setCell (Nat.le_refl _) _).setCell (Nat.le_refl _) _⟩
        · obtain rfl : k = nw := by omega
          go_wp2
          exact bodyPost_ret (v := .tuple #[.agg #[.int .i64 (sm K 0 k), .int .i64 (sm (fun i => K i + W i) 0 k), .int .i64 (sm (fun i => (L i : Int)) 0 k)], .bool true]) (by simp [results, Try.results6, go_sem, z0, z1, z2]) rfl ⟨measured_yes ⟨rfl, rfl, HA.out, rfl, rfl, rfl⟩, ((HB.out.setCell (Nat.le_refl _) _).setCell (Nat.le_refl _) _).setCell (Nat.le_refl _) _⟩
    · have e2' : ((nw : Int) != (nt : Int)) = true := by rw [bne_iff_ne]; omega
      subst e1
      have HE := hidden' e2
      clear e2
      go_enter Try.func6, Try.ntmps6
      go_wp2
      exact bodyPost_ret (v := .tuple #[.agg #[.int .i64 0, .int .i64 0, .int .i64 0], .bool false]) (by simp [results, Try.results6, go_sem]) rfl ⟨measured_no _ _ _, by go_grown⟩
  · have e1' : ((nn : Int) != (nt : Int)) = true := by rw [bne_iff_ne]; omega
    have HE := hidden' e1
    clear e1
    go_enter Try.func6, Try.ntmps6
    go_wp2
    exact bodyPost_ret (v := .tuple #[.agg #[.int .i64 0, .int .i64 0, .int .i64 0], .bool false]) (by simp [results, Try.results6, go_sem]) rfl ⟨measured_no _ _ _, by go_grown⟩

end Go.Proofs.Qxb6614769a
