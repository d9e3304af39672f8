/-
  recount of an inner node of two children; ZZrecount.
-/
import Derived.Test.Qxb6614769aDeep
namespace Go.Proofs.Qxb6614769a
open Go.RowKit

/-- What is asked of the two children: child j is the node P j, counted already. -/
structure Kids (w : World) (N gc : Nat) (P : Nat → Nat) (V0 V1 V2 Cn : Nat → Int) : Prop where
  ptr : ∀ j, j < 2 → w.cell? ⟨gc, j, none⟩ = some (.pointer (some ⟨P j, 0, none⟩))
  v0 : ∀ j, j < 2 → w.cell? ⟨P j, 0, none⟩ = some (.int .i64 (V0 j))
  v1 : ∀ j, j < 2 → w.cell? ⟨P j, 1, none⟩ = some (.int .i64 (V1 j))
  v2 : ∀ j, j < 2 → w.cell? ⟨P j, 2, none⟩ = some (.int .i64 (V2 j))
  cn : ∀ j, j < 2 → w.cell? ⟨P j, 3, none⟩ = some (.int .i64 (Cn j))
  dp : ∀ j, j < 2 → w.cell? ⟨P j, 4, none⟩ = some (.int .i64 0)
  apart : ∀ j, j < 2 → P j ≠ N ∧ P j < w.heap.size
  row : gc ≠ N ∧ gc < w.heap.size

theorem Kids.kept {w w' : World} {N gc : Nat} {P : Nat → Nat} {V0 V1 V2 Cn : Nat → Int} (h : Kids w N gc P V0 V1 V2 Cn) (hg : Gr N w w') : Kids w' N gc P V0 V1 V2 Cn := by
  have hb : ∀ j i, j < 2 → w'.cell? ⟨P j, i, none⟩ = w.cell? ⟨P j, i, none⟩ := fun j i hj => World.cell?_of_block (w := w) (hg.block (P j) (h.apart j hj).2 (by simpa using (h.apart j hj).1))
  have hc : ∀ i, w'.cell? ⟨gc, i, none⟩ = w.cell? ⟨gc, i, none⟩ := fun i => World.cell?_of_block (w := w) (hg.block gc h.row.2 (by simpa using h.row.1))
  exact ⟨fun j hj => by rw [hc]; exact h.ptr j hj, fun j hj => by rw [hb j _ hj]; exact h.v0 j hj, fun j hj => by rw [hb j _ hj]; exact h.v1 j hj, fun j hj => by rw [hb j _ hj]; exact h.v2 j hj,
    fun j hj => by rw [hb j _ hj]; exact h.cn j hj, fun j hj => by rw [hb j _ hj]; exact h.dp j hj, fun j hj => ⟨(h.apart j hj).1, Nat.lt_of_lt_of_le (h.apart j hj).2 hg.size⟩, h.row.1, Nat.lt_of_lt_of_le h.row.2 hg.size⟩

set_option maxHeartbeats 3200000 in
theorem recount_inner (N gc : Nat) (P : Nat → Nat) (V0 V1 V2 Cn : Nat → Int) (l0 l1 l2 cnt dep : Int) (w : World) (hn : IsNode w N l0 l1 l2 cnt dep (.slice (some ⟨gc, 0, none⟩) 2 2) (.slice none 0 0))
    (h : Kids w N gc P V0 V1 V2 Cn)
    (hs : ∀ j, j < 2 → 0 ≤ V0 j ∧ V0 j ≤ 4194304 ∧ 0 ≤ V1 j ∧ V1 j ≤ 4194304 ∧ 0 ≤ V2 j ∧ V2 j ≤ 4194304 ∧ 0 ≤ Cn j ∧ Cn j ≤ 4194304) :
    Calls Try.prog 18 #[.pointer (some ⟨N, 0, none⟩)] w fun e w' => e = .returned (.tuple #[]) ∧ IsNode w' N (V0 0 + V0 1) (V1 0 + V1 1) (V2 0 + V2 1) (Cn 0 + Cn 1) 0 (.slice (some ⟨gc, 0, none⟩) 2 2) (.slice none 0 0) ∧ Gr N w w' := by
  have HN : Hid (IsNode w N l0 l1 l2 cnt dep (.slice (some ⟨gc, 0, none⟩) 2 2) (.slice none 0 0)) := hn
  have H : Hid (Kids w N gc P V0 V1 V2 Cn) := h
  have HS : Hid (∀ j, j < 2 → 0 ≤ V0 j ∧ V0 j ≤ 4194304 ∧ 0 ≤ V1 j ∧ V1 j ≤ 4194304 ∧ 0 ≤ V2 j ∧ V2 j ≤ 4194304 ∧ 0 ≤ Cn j ∧ Cn j ≤ 4194304) := hs
  obtain ⟨n0, n1, n2, n3, n4, n5, n6⟩ := hn.cell
  have hf := hn.free
  clear h hn hs
  go_enter Try.func18, Try.ntmps18
  go_wp2_with fail
  have N1 := (HN.out.set012 0 0 0).1.set3 0
  have G1 := gr_trans (HN.out.set012 0 0 0).2 (gr_set N _ 3 (.int .i64 0))
  generalize ((((w.setCell { block := N, off := 0 } (Value.int IntKind.i64 0)).setCell { block := N, off := 1 } (Value.int IntKind.i64 0)).setCell { block := N, off := 2 } (Value.int IntKind.i64 0)).setCell { block := N, off := 3 } (Value.int IntKind.i64 0)) = w1 at *
  clear n0 n1 n2 n3 n4 n5 n6 hf
  have R1 := H.out.kept G1
  refine (deepest_inner N gc (P 0) (P 1) w1 N1.cell.2.2.2.2.2.1 N1.cell.2.2.2.2.2.2 (R1.ptr 0 (by decide)) (R1.ptr 1 (by decide)) (R1.dp 0 (by decide)) (R1.dp 1 (by decide))).mono ?_
  rintro e w2 ⟨rfl, rfl⟩
  obtain ⟨n0, n1, n2, n3, n4, n5, n6⟩ := N1.cell
  have hf := N1.free
  have N3 := hidden' (N1.set4 0)
  have G3 := hidden' (gr_trans G1 (gr_set N _ 4 (.int .i64 0)))
  clear N1 G1 R1
  go_wp2_with fail
  generalize w1.setCell { block := N, off := 4 } (Value.int IntKind.i64 0) = w3 at *
  clear n0 n1 n2 n3 n4 n5 n6 hf
  obtain ⟨n0, n1, n2, n3, n4, n5, n6⟩ := N3.out.cell
  refine (leaf_any N _ 2 2 w3 n5).mono ?_
  rintro e w4 ⟨rfl, rfl⟩
  clear n0 n1 n2 n3 n4 n6
  go_wp2
  clear n5
  go_loopw [52] (fun i wr => ∃ k : Nat, k ≤ 2 ∧ i = .int .i64 k ∧ Hid (IsNode wr N (sm V0 0 k) (sm V1 0 k) (sm V2 0 k) (sm Cn 0 k) 0 (.slice (some ⟨gc, 0, none⟩) 2 2) (.slice none 0 0)) ∧ Hid (Gr N w wr)) (fun i _ => 2 - (intOf i).toNat)
  case atStart => exact ⟨0, Nat.zero_le _, rfl, N3, G3⟩
  case round =>
    obtain ⟨k, hk, rfl, NK, GK⟩ := hrel
    by_cases hlt : k < 2
    · have RK := H.out.kept GK.out
      have k0 := RK.ptr k hlt
      have k1 := RK.v0 k hlt
      have k2 := RK.v1 k hlt
      have k3 := RK.v2 k hlt
      have k4 := RK.cn k hlt
      have kp := (RK.apart k hlt).1
      have KL := (RK.apart k hlt).2
      have HK := hidden' RK
      obtain ⟨n0, n1, n2, n3, n4, n5, n6⟩ := NK.out.cell
      have hf := NK.out.free
      have hlt' : (k : Int) < 2 := by omega
      have hNr := NK.out.lt
      obtain ⟨s1, s2, s3, s4, s5, s6, s7, s8⟩ := HS.out k hlt
      have bs : 0 ≤ sm V0 0 k ∧ sm V0 0 k ≤ 8388608 ∧ 0 ≤ sm V1 0 k ∧ sm V1 0 k ≤ 8388608 ∧ 0 ≤ sm V2 0 k ∧ sm V2 0 k ≤ 8388608 ∧ 0 ≤ sm Cn 0 k ∧ sm Cn 0 k ≤ 8388608 := by
        have z := HS.out 0 (by decide)
        match k, hlt with
        | 0, _ => simp [sm]
        | 1, _ => simp [sm]; omega
      obtain ⟨t1, t2, t3, t4, t5, t6, t7, t8⟩ := bs
      have e1 := hidden' (show sm V0 0 (k + 1) = sm V0 0 k + V0 k by simp [sm])
      have e2 := hidden' (show sm V1 0 (k + 1) = sm V1 0 k + V1 k by simp [sm])
      have e3 := hidden' (show sm V2 0 (k + 1) = sm V2 0 k + V2 k by simp [sm])
      have e4 := hidden' (show sm Cn 0 (k + 1) = sm Cn 0 k + Cn k by simp [sm])
      generalize sm V0 0 k = X0 at *
      generalize sm V1 0 k = X1 at *
      generalize sm V2 0 k = X2 at *
      generalize sm Cn 0 k = X3 at *
      clear n4 n5 n6 RK
      go_wp2
      go_region_with (first
        | (go_at_call 21; refine (plus_any X0 X1 X2 (V0 k) (V1 k) (V2 k) _ (by omega) (by omega)).mono ?_; rintro e wc ⟨rfl, hb21⟩; have NC := (NK.out.drew).kept hb21; obtain ⟨t0, t1, t2, t3, t4, t5, t6⟩ := NC.cell; have tf := NC.free; clear t4 t5 t6))
      all_goals
        go_wp2
        have N5 := (NC.set012 (X0 + V0 k) (X1 + V1 k) (X2 + V2 k)).1
        have G5 := gr_trans (gr_trans (gr_drew GK.out) (gr_below hb21)) (NC.set012 (X0 + V0 k) (X1 + V1 k) (X2 + V2 k)).2
        generalize ((wc.setCell ⟨N, 0, none⟩ (.int .i64 (X0 + V0 k))).setCell ⟨N, 1, none⟩ (.int .i64 (X1 + V1 k))).setCell ⟨N, 2, none⟩ (.int .i64 (X2 + V2 k)) = wx at *
        have K5 := H.out.kept G5
        have q0 := K5.cn k hlt
        obtain ⟨m0, m1, m2, m3, m4, m5, m6⟩ := N5.cell
        have mf := N5.free
        have N6 := hidden' N5
        have G6 := hidden' G5
        clear m0 m1 m2 m4 m5 m6 K5 N5 G5 NC hb21 tf t0 t1 t2 t3 k0 k1 k2 k3 k4 n0 n1 n2 n3 hf NK GK HK
        go_region
        all_goals
          go_wp2
          go_roundw
          case rel =>
            refine ⟨k + 1, by omega, by go_num, ?_, ?_⟩
            · show IsNode _ _ _ _ _ _ _ _ _
              rw [e1.out, e2.out, e3.out, e4.out]
              exact N6.out.drew.set3 _
            · exact gr_trans (gr_drew G6.out) (gr_set N _ 3 _)
          case measure => simp [intOf]; omega
    · obtain rfl : k = 2 := by omega
      go_wp2
      go_returns
      refine ⟨rfl, ?_, GK.out⟩
      have := NK.out
      simpa [sm] using this

theorem zzrecount_leaf (N g m : Nat) (A : Nat → Option Addr) (L C : Nat → Nat) (K W : Nat → Int) (l0 l1 l2 cnt dep : Int) (w : World) (hn : IsNode w N l0 l1 l2 cnt dep (.slice none 0 0) (.slice (some ⟨g, 0, none⟩) m m))
    (h : BRow w g m A L C K W) (hm : m ≤ 65536) (hgN : g ≠ N) (hb : ∀ i, i < m → 0 ≤ K i ∧ K i ≤ 1048576 ∧ 0 ≤ W i ∧ W i ≤ 1048576)
    (hs : ∀ k, k ≤ m → 0 ≤ sm K 0 k ∧ sm K 0 k ≤ 1048576 ∧ 0 ≤ sm (fun i => K i + W i) 0 k ∧ sm (fun i => K i + W i) 0 k ≤ 2097152 ∧ 0 ≤ sm (fun i => (L i : Int)) 0 k ∧ sm (fun i => (L i : Int)) 0 k ≤ 1048576) :
    Calls Try.prog 10 #[.pointer (some ⟨N, 0, none⟩)] w fun e w' => e = .returned (.tuple #[]) ∧ IsNode w' N (sm K 0 m) (sm (fun i => K i + W i) 0 m) (sm (fun i => (L i : Int)) 0 m) m 0 (.slice none 0 0) (.slice (some ⟨g, 0, none⟩) m m) ∧ Gr N w w' := by
  have X := recount_leaf N g m A L C K W l0 l1 l2 cnt dep w hn h hm hgN hb hs
  have HX : Hid (Calls Try.prog 18 #[.pointer (some ⟨N, 0, none⟩)] w fun e w' => e = .returned (.tuple #[]) ∧ IsNode w' N (sm K 0 m) (sm (fun i => K i + W i) 0 m) (sm (fun i => (L i : Int)) 0 m) m 0 (.slice none 0 0) (.slice (some ⟨g, 0, none⟩) m m) ∧ Gr N w w') := X
  clear X hn h hb hs
  go_enter Try.func10, Try.ntmps10
  go_wp2_with fail
  refine HX.out.mono ?_
  rintro e w1 ⟨rfl, N1, G1⟩
  go_wp2
  go_returns
  exact ⟨rfl, N1, G1⟩

theorem zzrecount_inner (N gc : Nat) (P : Nat → Nat) (V0 V1 V2 Cn : Nat → Int) (l0 l1 l2 cnt dep : Int) (w : World) (hn : IsNode w N l0 l1 l2 cnt dep (.slice (some ⟨gc, 0, none⟩) 2 2) (.slice none 0 0))
    (h : Kids w N gc P V0 V1 V2 Cn)
    (hs : ∀ j, j < 2 → 0 ≤ V0 j ∧ V0 j ≤ 4194304 ∧ 0 ≤ V1 j ∧ V1 j ≤ 4194304 ∧ 0 ≤ V2 j ∧ V2 j ≤ 4194304 ∧ 0 ≤ Cn j ∧ Cn j ≤ 4194304) :
    Calls Try.prog 10 #[.pointer (some ⟨N, 0, none⟩)] w fun e w' => e = .returned (.tuple #[]) ∧ IsNode w' N (V0 0 + V0 1) (V1 0 + V1 1) (V2 0 + V2 1) (Cn 0 + Cn 1) 0 (.slice (some ⟨gc, 0, none⟩) 2 2) (.slice none 0 0) ∧ Gr N w w' := by
  have X := recount_inner N gc P V0 V1 V2 Cn l0 l1 l2 cnt dep w hn h hs
  have HX : Hid (Calls Try.prog 18 #[.pointer (some ⟨N, 0, none⟩)] w fun e w' => e = .returned (.tuple #[]) ∧ IsNode w' N (V0 0 + V0 1) (V1 0 + V1 1) (V2 0 + V2 1) (Cn 0 + Cn 1) 0 (.slice (some ⟨gc, 0, none⟩) 2 2) (.slice none 0 0) ∧ Gr N w w') := X
  clear X hn h hs
  go_enter Try.func10, Try.ntmps10
  go_wp2_with fail
  refine HX.out.mono ?_
  rintro e w1 ⟨rfl, N1, G1⟩
  go_wp2
  go_returns
  exact ⟨rfl, N1, G1⟩

end Go.Proofs.Qxb6614769a
