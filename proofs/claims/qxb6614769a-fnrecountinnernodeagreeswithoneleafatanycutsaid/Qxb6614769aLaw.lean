/-
  THE LAW's WALK, out of the contracts.
-/
import Derived.Test.Qxb6614769aSums
namespace Go.Proofs.Qxb6614769a
open Go.RowKit

theorem len_q (s N u : Nat) (x : Int) (w : World) (hu : u < 3) (h : w.cell? ⟨s, 0, none⟩ = some (.pointer (some ⟨N, 0, none⟩))) (g : w.cell? ⟨N, u, none⟩ = some (.int .i64 x)) :
    Calls Try.prog 13 #[.pointer (some ⟨s, 0, none⟩), .int .u8 u] w fun e w' => e = .returned (.int .i64 x) ∧ w' = w :=
  (len_any s N u x w hu h g).mono fun _ _ ⟨a, b⟩ => ⟨a, b.symm⟩

set_option maxRecDepth 100000 in
set_option maxHeartbeats 8000000 in
theorem law_any (at' : Option Addr) (nt ct : Nat) (A : Nat → Option Addr) (L C : Nat → Nat) (Z : Nat → Nat → Int) (an : Option Addr) (nn cn : Nat) (K : Nat → Int) (aw : Option Addr) (nw cw : Nat) (W : Nat → Int) (cut : Int) (w : World)
    (ht : Texts w at' nt ct A L C Z) (hn : VRow w an nn cn (fun i => .int .i32 (K i))) (hw : VRow w aw nw cw (fun i => .int .i32 (W i)))
    (hK : ∀ i, -2147483648 ≤ K i ∧ K i ≤ 2147483647) (hW : ∀ i, -2147483648 ≤ W i ∧ W i ≤ 2147483647) :
    Calls Try.prog 3 #[.slice at' nt ct, .slice an nn cn, .slice aw nw cw, .int .i64 cut] w fun e w' => e = .returned (.bool true) ∧ Below w.heap.size w w' := by
  have HT := hidden' ht
  have HN := hidden' hn
  have HW := hidden' hw
  have HK := hidden' hK
  have HWW := hidden' hW
  clear ht hn hw hK hW
  go_enter Try.func3, Try.ntmps3
  go_wp2_with fail
  refine (zz4_any at' nt ct A L C an nn cn aw nw cw cut w HT.out.row).mono ?_
  rintro e w0 ⟨⟨b, rfl, hb⟩, rfl⟩
  cases b with
  | false =>
    go_wp2
    go_ret
    exact ⟨rfl, Below.refl _ _⟩
  | true =>
    have HL := hidden' (hb rfl)
    clear hb
    go_wp2_with fail
    refine (size_any at' nt ct A L C an nn cn aw nw cw w HT.out.row HL.out).mono ?_
    rintro e w0 ⟨⟨b, rfl, hb⟩, rfl⟩
    cases b with
    | false =>
      go_wp2
      go_ret
      exact ⟨rfl, Below.refl _ _⟩
    | true =>
      obtain ⟨hnt, hsum⟩ := hb rfl
      have HS := hidden' hsum
      clear hb hsum
      go_wp2_with fail
      refine (measure_any at' nt ct A L C Z an nn cn K aw nw cw W w HT.out HN.out HW.out HK.out HWW.out HL.out HS.out hnt).mono ?_
      rintro e w1 ⟨⟨x0, x1, x2, b, rfl, hb⟩, B1⟩
      cases b with
      | false =>
        go_wp2
        go_ret
        exact ⟨rfl, B1.alloc B1.size _⟩
      | true =>
        have G := hidden' (hb rfl)
        clear hb
        by_cases c1 : 0 ≤ cut
        · by_cases c2 : cut ≤ nt
          · obtain ⟨kc, rfl⟩ := Int.eq_ofNat_of_zero_le c1
            have c2' : kc ≤ nt := by omega
            obtain rfl : nn = nt := G.out.n1
            obtain rfl : nw = nn := G.out.n2
            go_wp2_with fail
            have TT : Hid (IsTri (w1.alloc (.cells #[.int .i64 x0, .int .i64 x1, .int .i64 x2] 26)) w1.heap.size x0 x1 x2) := heap_alloc_new w1 _
            have BA : Below w.heap.size w (w1.alloc (.cells #[.int .i64 x0, .int .i64 x1, .int .i64 x2] 26)) := B1.alloc B1.size _
            generalize w1.alloc (.cells #[.int .i64 x0, .int .i64 x1, .int .i64 x2] 26) = wa at *
            have hT0 := B1.size
            clear B1
            generalize w1.heap.size = T at *
            refine (copyTexts_any at' nw ct A L C Z wa (HT.out.kept BA) HL.out hnt).mono ?_
            rintro e w2 ⟨a2, cc2, A2, C2, rfl, R2, B2⟩
            have BB2 : Below w.heap.size w w2 := BA.trans (B2.mono BA.size)
            have T2 := hidden' (TT.out.kept B2)
            have Q1 := hidden' R2
            have Q2 := hidden' (HN.out.kept BB2)
            have Q3 := hidden' (HW.out.kept BB2)
            have BH2 := hidden' BB2
            clear TT BA B2 BB2 R2 HT HN HW
            go_wp2_with fail
            refine (blocks_zero a2 nw cc2 A2 L C2 an nw cn K aw nw cw W nw w2 Q1.out Q2.out Q3.out (Nat.le_refl _) (Nat.le_refl _) (Nat.le_refl _) hnt).mono ?_
            rintro e w3 ⟨rfl, R3, B3⟩
            go_wp2_with fail
            refine (newLeaf_any (some ⟨w2.heap.size, 0, none⟩) nw nw w3).mono ?_
            rintro e w4 ⟨rfl, hw4⟩
            have M4 : IsNode w4 w3.heap.size 0 0 0 0 0 (.slice none 0 0) (.slice (some ⟨w2.heap.size, 0, none⟩) nw nw) := by rw [hw4]; exact node_new _ _ _ _ _ _ _ _
            have B4 : Below w3.heap.size w3 w4 := by rw [hw4]; exact bel_alloc _ _
            have R4 := R3.below B4
            have B24 : Below w2.heap.size w2 w4 := B3.trans (B4.mono B3.size)
            have hN1 := R3.low
            clear hw4 R3 B4 B3
            have bd1 := recount_bounds0 G.out HL.out HS.out nw (Nat.le_refl _)
            go_wp2_with fail
            refine (zzrecount_leaf w3.heap.size w2.heap.size nw A2 L C2 K W 0 0 0 0 0 w4 M4 R4 hnt (by omega) bd1.1 bd1.2).mono ?_
            rintro e w5 ⟨rfl, M5, G5⟩
            have B25 : Below w2.heap.size w2 w5 := B24.trans (gr_base G5 (by omega) B24.size)
            have T5 := hidden' (T2.out.kept B25)
            have P1 := hidden' (Q1.out.kept B25)
            have P2 := hidden' (Q2.out.kept B25)
            have P3 := hidden' (Q3.out.kept B25)
            have BH5 := hidden' (BH2.out.trans (B25.mono BH2.out.size))
            have M5H := hidden' M5
            generalize w3.heap.size = N1 at *
            clear M4 R4 B24 G5 bd1 T2 Q1 Q2 Q3 BH2 M5 B25 hN1
            -- the left leaf
            go_wp2_with fail
            refine (blocks_zero a2 nw cc2 A2 L C2 an nw cn K aw nw cw W kc w5 P1.out P2.out P3.out c2' c2' c2' (by omega)).mono ?_
            rintro e w6 ⟨rfl, R6, B6⟩
            go_wp2_with fail
            refine (newLeaf_any (some ⟨w5.heap.size, 0, none⟩) kc kc w6).mono ?_
            rintro e w7 ⟨rfl, hw7⟩
            have M7 : IsNode w7 w6.heap.size 0 0 0 0 0 (.slice none 0 0) (.slice (some ⟨w5.heap.size, 0, none⟩) kc kc) := by rw [hw7]; exact node_new _ _ _ _ _ _ _ _
            have B7 : Below w6.heap.size w6 w7 := by rw [hw7]; exact bel_alloc _ _
            have R7 := R6.below B7
            have B57 : Below w5.heap.size w5 w7 := B6.trans (B7.mono B6.size)
            have hg2 := R6.low
            have hN2 := M7.lt
            clear hw7 R6 B7 B6
            -- the right leaf
            obtain ⟨mr, hmr⟩ : ∃ mr, kc + mr = nw := ⟨nw - kc, by omega⟩
            have HMR := hidden' hmr
            clear hmr
            go_wp2_with fail
            refine (blocks_any a2 nw cc2 A2 L C2 an nw cn K aw nw cw W kc nw mr w7 (P1.out.kept B57) (P2.out.kept B57) (P3.out.kept B57) HMR.out (Nat.le_refl _) (Nat.le_refl _) (Nat.le_refl _) hnt).mono ?_
            rintro e w8 ⟨rfl, R8, B8⟩
            go_wp2_with fail
            refine (newLeaf_any (some ⟨w7.heap.size, 0, none⟩) mr mr w8).mono ?_
            rintro e w9 ⟨rfl, hw9⟩
            have M9 : IsNode w9 w8.heap.size 0 0 0 0 0 (.slice none 0 0) (.slice (some ⟨w7.heap.size, 0, none⟩) mr mr) := by rw [hw9]; exact node_new _ _ _ _ _ _ _ _
            have B9 : Below w8.heap.size w8 w9 := by rw [hw9]; exact bel_alloc _ _
            have R9 := R8.below B9
            have B79 : Below w7.heap.size w7 w9 := B8.trans (B9.mono B8.size)
            have hg3 := R8.low
            have hN3 := M9.lt
            have M7' := M7.kept B79
            have R7' := R7.below B79
            have B59 : Below w5.heap.size w5 w9 := B57.trans (B79.mono B57.size)
            clear hw9 R8 B9 B8 M7 R7 B79 B57
            have bdl := recount_bounds0 G.out HL.out HS.out kc c2'
            have bdr := recount_bounds G.out HL.out HS.out kc mr (by have := HMR.out; omega)
            have hmr' : mr ≤ nw := by have := HMR.out; omega
            go_wp2_with fail
            refine (zzrecount_leaf w6.heap.size w5.heap.size kc A2 L C2 K W 0 0 0 0 0 w9 M7' R7' (by omega) (by omega) bdl.1 bdl.2).mono ?_
            rintro e w10 ⟨rfl, M10, G10⟩
            have M9' := M9.gr G10 (by omega)
            have R9' := R9.kept (G10.block w7.heap.size R9.low (by simp; omega))
            have B510 : Below w5.heap.size w5 w10 := B59.trans (gr_base G10 (by omega) B59.size)
            have hs10 := G10.size
            clear M7' R7' M9 R9 G10 B59 bdl
            go_wp2_with fail
            refine (zzrecount_leaf w8.heap.size w7.heap.size mr (fun i => A2 (kc + i)) (fun i => L (kc + i)) (fun i => C2 (kc + i)) (fun i => K (kc + i)) (fun i => W (kc + i)) 0 0 0 0 0 w10 M9' R9' (by omega) (by omega) bdr.1 bdr.2).mono ?_
            rintro e w11 ⟨rfl, M11, G11⟩
            have M10' := M10.gr G11 (by omega)
            have B511 : Below w5.heap.size w5 w11 := B510.trans (gr_base G11 (by omega) B510.size)
            clear M9' R9' G11 B510 M10
            go_wp2_with fail
            refine (newInner_any w6.heap.size w8.heap.size w11).mono ?_
            rintro e w12 ⟨rfl, hw12⟩
            obtain ⟨B12, M12, KD⟩ := kids_new w11 _ _ _ _ _ _ _ _ _ _ _ _ _ _ M10' M11 w12 hw12
            have bdl := (recount_bounds0 G.out HL.out HS.out kc c2').2 kc (Nat.le_refl _)
            have bdr' := bdr.2 mr (Nat.le_refl _)
            have B512 : Below w5.heap.size w5 w12 := B511.trans (B12.mono B511.size)
            have hs12 := B512.size
            have hs511 := B511.size
            clear hw12 M10' M11 B511 bdr
            go_wp2_with fail
            refine (zzrecount_inner (w11.heap.size + 1) w11.heap.size _ _ _ _ _ 0 0 0 0 0 w12 M12 KD (by
              intro j hj
              match j, hj with
              | 0, _ => simp; omega
              | 1, _ => simp; omega)).mono ?_
            rintro e w13 ⟨rfl, M13, G13⟩
            simp only [if_true, Nat.one_ne_zero, if_false] at M13
            have f0 : sm K 0 kc + sm (fun i => K (kc + i)) 0 mr = x0 := by rw [G.out.s0, ← HMR.out, sm_split]
            have f1 : sm (fun i => K i + W i) 0 kc + sm (fun i => K (kc + i) + W (kc + i)) 0 mr = x1 := by rw [G.out.s1, ← HMR.out, sm_split]
            have f2 : sm (fun i => (L i : Int)) 0 kc + sm (fun i => (L (kc + i) : Int)) 0 mr = x2 := by rw [G.out.s2, ← HMR.out, sm_split]
            have f3 : (kc : Int) + (mr : Int) = (nw : Int) := by have := HMR.out; omega
            rw [f0, f1, f2, f3] at M13
            have M5' : IsNode w5 N1 x0 x1 x2 nw 0 (.slice none 0 0) (.slice (some ⟨w2.heap.size, 0, none⟩) nw nw) := by rw [G.out.s0, G.out.s1, G.out.s2]; exact M5H.out
            have B513 : Below w5.heap.size w5 w13 := B512.trans (gr_base G13 (by omega) B512.size)
            clear M12 KD G13 B512 B12 f0 f1 f2 f3 M5H bdl bdr'
            go_wp2_with fail
            refine (storeOf_any (w11.heap.size + 1) w13).mono ?_
            rintro e w14 ⟨rfl, hw14⟩
            have D14 : w14.heap[w13.heap.size]? = some (.cells #[.pointer (some ⟨w11.heap.size + 1, 0, none⟩)] 58 (0, 0)) := by rw [hw14]; exact heap_alloc_new _ _
            have B14 : Below w13.heap.size w13 w14 := by rw [hw14]; exact bel_alloc _ _
            clear hw14
            go_wp2_with fail
            refine (storeOf_any N1 w14).mono ?_
            rintro e w15 ⟨rfl, hw15⟩
            have D15 : w15.heap[w14.heap.size]? = some (.cells #[.pointer (some ⟨N1, 0, none⟩)] 58 (0, 0)) := by rw [hw15]; exact heap_alloc_new _ _
            have B15 : Below w14.heap.size w14 w15 := by rw [hw15]; exact bel_alloc _ _
            clear hw15
            have B1315 : Below w13.heap.size w13 w15 := B14.trans (B15.mono B14.size)
            have B515 : Below w5.heap.size w5 w15 := B513.trans (B1315.mono B513.size)
            have sc : w15.cell? ⟨w13.heap.size, 0, none⟩ = some (.pointer (some ⟨w11.heap.size + 1, 0, none⟩)) := by
              rw [B15.cell (p := ⟨w13.heap.size, 0, none⟩) (lt_of_block D14)]; simp [World.cell?, D14]
            have tc : w15.cell? ⟨w14.heap.size, 0, none⟩ = some (.pointer (some ⟨N1, 0, none⟩)) := by simp [World.cell?, D15]
            obtain ⟨s0, s1, s2, s3, s4, _, _⟩ := (M13.kept B1315).cell
            obtain ⟨t0, t1, t2, t3, t4, _, _⟩ := (M5'.kept B515).cell
            obtain ⟨r0, r1, r2⟩ := (T5.out.kept B515).cell
            have BW := hidden' (BH5.out.trans (B515.mono BH5.out.size))
            have hsame : Hid (∀ u, u < 3 → ∃ x : Int, w15.cell? ⟨w11.heap.size + 1, u, none⟩ = some (.int .i64 x) ∧ w15.cell? ⟨N1, u, none⟩ = some (.int .i64 x) ∧ w15.cell? ⟨T, u, none⟩ = some (.int .i64 x)) := by
              intro u hu
              match u, hu with
              | 0, _ => exact ⟨x0, s0, t0, r0⟩
              | 1, _ => exact ⟨x1, s1, t1, r1⟩
              | 2, _ => exact ⟨x2, s2, t2, r2⟩
            generalize w11.heap.size + 1 = N4 at *
            generalize w13.heap.size = sB at *
            generalize w14.heap.size = tB at *
            clear s0 s1 s2 t0 t1 t2 r0 r1 r2 M13 M5' T5 B515 B1315 B15 B14 D14 D15 B513 P1 P2 P3 BH5
            go_wp2
            go_loopw [17] (fun i wr => ∃ u q : Nat, u ≤ 3 ∧ i = .int .i64 u ∧ wr = w15.drewN q) (fun i _ => 3 - (intOf i).toNat)
            case atStart => exact ⟨0, 0, Nat.zero_le _, rfl, rfl⟩
            case round =>
              obtain ⟨u, q, hu, rfl, rfl⟩ := hrel
              by_cases hlt : u < 3
              · obtain ⟨x, y1, y2, y3⟩ := hsame.out u hlt
                have hlt' : (u : Int) < 3 := by omega
                go_wp2
                obtain ⟨wq, hwq⟩ : ∃ wq, wq = w15.drewN q := ⟨_, rfl⟩
                have sc' : wq.cell? ⟨sB, 0, none⟩ = some (.pointer (some ⟨N4, 0, none⟩)) := by rw [hwq]; exact sc
                have tc' : wq.cell? ⟨tB, 0, none⟩ = some (.pointer (some ⟨N1, 0, none⟩)) := by rw [hwq]; exact tc
                have y1' : wq.cell? ⟨N4, u, none⟩ = some (.int .i64 x) := by rw [hwq]; exact y1
                have y2' : wq.cell? ⟨N1, u, none⟩ = some (.int .i64 x) := by rw [hwq]; exact y2
                have y3' : wq.cell? ⟨T, u, none⟩ = some (.int .i64 x) := by rw [hwq]; exact y3
                rw [← hwq]
                have HWQ := hidden' hwq
                clear hwq sc tc y1 y2 y3
                go_quiet ((first | (go_at_call_of 13 (Value.pointer (some (Addr.mk sB 0 none))); exact Calls.quiet_of_same (len_q sB N4 u x _ hlt (by exact sc') (by exact y1'))) | (go_at_call_of 13 (Value.pointer (some (Addr.mk tB 0 none))); exact Calls.quiet_of_same (len_q tB N1 u x _ hlt (by exact tc') (by exact y2')))))
                go_wp2
                go_roundw
                case rel => exact ⟨u + 1, q + nq, by omega, by go_num, by rw [HWQ.out]; exact World.drewN_drewN ..⟩
                case measure => simp [intOf]; omega
              · go_wp2_with fail
                refine (num_any sB N4 nw (w15.drewN q) sc s3).mono ?_
                rintro e v1 ⟨rfl, rfl⟩
                go_wp2_with fail
                refine (num_any tB N1 nw (w15.drewN q) tc t3).mono ?_
                rintro e v1 ⟨rfl, rfl⟩
                go_wp2_with fail
                refine (num_any sB N4 nw (w15.drewN q) sc s3).mono ?_
                rintro e v1 ⟨rfl, rfl⟩
                go_wp2_with fail
                refine (depth_any sB N4 0 (w15.drewN q) sc s4).mono ?_
                rintro e v1 ⟨rfl, rfl⟩
                go_wp2_with fail
                refine (depth_any tB N1 0 (w15.drewN q) tc t4).mono ?_
                rintro e v1 ⟨rfl, rfl⟩
                go_wp2
                go_ret
                exact ⟨rfl, ⟨BW.out.os, BW.out.tape, BW.out.output, BW.out.size, BW.out.block⟩⟩
          · have c1' : ¬ cut < 0 := by omega
            go_wp2
            go_ret
            exact ⟨rfl, B1.alloc B1.size _⟩
        · have c1' : cut < 0 := by omega
          go_wp2
          go_ret
          exact ⟨rfl, B1.alloc B1.size _⟩

end Go.Proofs.Qxb6614769a
