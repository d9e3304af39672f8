/-
  THE WALK OF FnAppendStagedTwoRecordsParseBack.
-/
import Derived.Test.Qxb6614553aRead
namespace Go.Proofs.Qxb6614553a
open Go.RowKit

theorem zz5_yes (a0 : Option Addr) (n0 c0 : Nat) (i : Int) (a1 : Option Addr) (n1 c1 : Nat) (j : Int) (a2 : Option Addr) (n2 c2 : Nat) (w : World) (h : n0 + n1 + n2 ≤ 1048576) :
    Calls Try.prog 5 #[.slice a0 n0 c0, .int .i64 i, .slice a1 n1 c1, .int .i64 j, .slice a2 n2 c2] w fun e w' => e = .returned (.bool true) ∧ w = w' := by
  go_enter Try.func5, Try.ntmps5
  go_wp2
  go_ret
  exact ⟨rfl, rfl⟩

theorem zz5_no (a0 : Option Addr) (n0 c0 : Nat) (i : Int) (a1 : Option Addr) (n1 c1 : Nat) (j : Int) (a2 : Option Addr) (n2 c2 : Nat) (w : World) (h : ¬ n0 + n1 + n2 ≤ 1048576) :
    Calls Try.prog 5 #[.slice a0 n0 c0, .int .i64 i, .slice a1 n1 c1, .int .i64 j, .slice a2 n2 c2] w fun e w' => e = .returned (.bool false) ∧ w = w' := by
  go_enter Try.func5, Try.ntmps5
  go_wp2
  all_goals
    go_ret
    exact ⟨rfl, rfl⟩

theorem two_no (a0 : Option Addr) (n0 c0 : Nat) (i : Int) (a1 : Option Addr) (n1 c1 : Nat) (j : Int) (a2 : Option Addr) (n2 c2 : Nat) (w : World) (h : ¬ (n0 + n1 + n2 ≤ 1048576 ∧ n0 ≤ 524288 ∧ n1 ≤ 262144 ∧ n2 ≤ 262144)) :
    Calls Try.prog 3 #[.slice a0 n0 c0, .int .i64 i, .slice a1 n1 c1, .int .i64 j, .slice a2 n2 c2] w fun e w' => e = .returned (.bool true) ∧ Below w.heap.size w w' := by
  by_cases h1 : n0 + n1 + n2 ≤ 1048576
  · by_cases h2 : n0 ≤ 524288
    · by_cases h3 : n1 ≤ 262144
      · have h4 : 262144 < n2 := by omega
        go_enter Try.func3, Try.ntmps3
        go_wp2_with (go_at_call 5; refine (zz5_yes a0 n0 c0 i a1 n1 c1 j a2 n2 c2 _ h1).mono ?_; rintro e w' ⟨rfl, rfl⟩)
        go_ret
        exact ⟨rfl, Below.refl _ _⟩
      · go_enter Try.func3, Try.ntmps3
        go_wp2_with (go_at_call 5; refine (zz5_yes a0 n0 c0 i a1 n1 c1 j a2 n2 c2 _ h1).mono ?_; rintro e w' ⟨rfl, rfl⟩)
        go_ret
        exact ⟨rfl, Below.refl _ _⟩
    · go_enter Try.func3, Try.ntmps3
      go_wp2_with (go_at_call 5; refine (zz5_yes a0 n0 c0 i a1 n1 c1 j a2 n2 c2 _ h1).mono ?_; rintro e w' ⟨rfl, rfl⟩)
      go_ret
      exact ⟨rfl, Below.refl _ _⟩
  · go_enter Try.func3, Try.ntmps3
    go_wp2_with (go_at_call 5; refine (zz5_no a0 n0 c0 i a1 n1 c1 j a2 n2 c2 _ h1).mono ?_; rintro e w' ⟨rfl, rfl⟩)
    go_ret
    exact ⟨rfl, Below.refl _ _⟩

set_option maxRecDepth 100000 in
set_option maxHeartbeats 8000000 in
theorem two_yes (a0 : Option Addr) (n0 c0 : Nat) (xs : List Int) (i : Int) (a1 : Option Addr) (n1 c1 : Nat) (ys : List Int) (j : Int) (a2 : Option Addr) (n2 c2 : Nat) (zs : List Int) (w : World)
    (s0 : Src w a0 n0 c0 xs) (l0 : ∀ x, a0 = some x → 0 < n0 → x.block < w.heap.size) (s1 : Src w a1 n1 c1 ys) (l1 : ∀ x, a1 = some x → 0 < n1 → x.block < w.heap.size)
    (s2 : Src w a2 n2 c2 zs) (l2 : ∀ x, a2 = some x → 0 < n2 → x.block < w.heap.size) (hb : n0 + n1 + n2 ≤ 1048576) (hb0 : n0 ≤ 524288) (hb1 : n1 ≤ 262144) (hb2 : n2 ≤ 262144) :
    Calls Try.prog 3 #[.slice a0 n0 c0, .int .i64 i, .slice a1 n1 c1, .int .i64 j, .slice a2 n2 c2] w fun e w' => e = .returned (.bool true) ∧ Below w.heap.size w w' := by
  obtain ⟨i0, hi, hz0, hz1, hz2⟩ := info_parts info5
  have S0 : Hid (Src w a0 n0 c0 xs) := s0
  have S1 : Hid (Src w a1 n1 c1 ys) := s1
  have S2 : Hid (Src w a2 n2 c2 zs) := s2
  have L0 : Hid (∀ x, a0 = some x → 0 < n0 → x.block < w.heap.size) := l0
  have L1 : Hid (∀ x, a1 = some x → 0 < n1 → x.block < w.heap.size) := l1
  have L2 : Hid (∀ x, a2 = some x → 0 < n2 → x.block < w.heap.size) := l2
  have hnil1 := fun w' => run_neq_slice_nil_any (P := Try.prog) w' 22 5 a1 n1 c1 0 0 Try.underlying22
  have hnil2 := fun w' => run_neq_slice_nil_any (P := Try.prog) w' 22 5 a2 n2 c2 0 0 Try.underlying22
  clear s0 s1 s2 l0 l1 l2
  rcases a1 with _ | x1 <;> rcases a2 with _ | x2
  · go_enter Try.func3, Try.ntmps3
    go_wp2_with (first | (go_at_call 5; refine (zz5_yes a0 n0 c0 i none n1 c1 j none n2 c2 _ hb).mono ?_; rintro e w' ⟨rfl, rfl⟩))
    have BR : Below w.heap.size w w := Below.refl _ _
    have SR1 : Hid (Src w none n1 c1 ys) := S1.out.kept BR L1.out
    have LR1 : Hid (∀ x : Addr, (none : Option Addr) = some x → 0 < n1 → x.block < w.heap.size) := fun x hx => by cases hx
    have SR2 : Hid (Src w none n2 c2 zs) := S2.out.kept BR L2.out
    have LR2 : Hid (∀ x : Addr, (none : Option Addr) = some x → 0 < n2 → x.block < w.heap.size) := fun x hx => by cases hx
    clear S1 L1 S2 L2 hnil1 hnil2
    refine (clone_any a0 n0 c0 xs _ (S0.out.kept BR L0.out) (by omega) (fun x hx hp => Nat.lt_of_lt_of_le (L0.out x hx hp) BR.size)).mono ?_
    rintro e w5 ⟨a5, c5, rfl, O5, B5⟩
    have q1 := uvLen_bd n1
    have q2 := uvLen_bd n2
    go_wp2_with fail
    refine (stage_any _ a5 n0 c5 xs i _ n1 _ ys _ O5 (SR1.out.kept B5 LR1.out) LR1.out (by omega) (by omega) B5.size).mono ?_
    rintro e w6 ⟨a6, c6, rfl, O6, B6⟩
    have B16 := B5.trans B6
    generalize e6 : n0 + 1 + uvLen n1 + n1 = N6 at *
    have E6 := hidden e6
    have b6 : N6 ≤ n0 + 3 + 1 + n1 := by omega
    have b6' : n0 < N6 := by omega
    clear e6
    go_wp2_with fail
    refine (stage_any _ a6 N6 c6 _ j _ n2 _ zs _ O6 (SR2.out.kept B16 LR2.out) LR2.out (by omega) (by omega) B16.size).mono ?_
    rintro e w7 ⟨a7, c7, rfl, O7, B7⟩
    have B17 := B16.trans B7
    have BB7 : Below w.heap.size w w7 := BR.trans (B17.mono BR.size)
    generalize e7 : N6 + 1 + uvLen n2 + n2 = N7 at *
    have E7 := hidden e7
    have b7 : N7 ≤ N6 + 3 + 1 + n2 := by omega
    have b7' : N6 < N7 := by omega
    clear e7
    obtain ⟨g7, rfl⟩ := own_head O7 (by omega)
    have P7 : Hid (Src w7 (some ⟨g7, 0, none⟩) N7 c7 (xs ++ staged i ys ++ staged j zs)) := O7.src (bytes_app (bytes_app S0.out.byte (staged_byte i ys (by rw [SR1.out.len]; omega) SR1.out.byte)) (staged_byte j zs (by rw [SR2.out.len]; omega) SR2.out.byte))
    have P0 : Hid (Src w7 a0 n0 c0 xs) := S0.out.kept BB7 L0.out
    have P1 := hidden (SR1.out.kept B17 LR1.out)
    have P2 := hidden (SR2.out.kept B17 LR2.out)
    have c7b := P7.out.cap
    clear O5 B5 O6 B6 B16 O7 B7 B17 BR SR1 LR1 SR2 LR2 S0 L0 q1 q2
    have PA : Hid (Src w7 (some ⟨g7, 0, none⟩) N7 c7 (xs ++ (staged i ys ++ staged j zs))) := by
      have := P7.out
      rwa [List.append_assoc] at this
    have PB : Hid (Src w7 (some ⟨g7, 0, none⟩) N7 c7 (xs ++ staged i ys ++ (staged j zs ++ []))) := by
      have := P7.out
      rwa [← List.append_nil (staged j zs)] at this
    have hpre : Hid ((xs ++ staged i ys).length = N6) := by
      show _ = _
      rw [List.length_append, staged_length, P0.out.len, P1.out.len, ← E6.out]; omega
    go_wp2_with fail
    refine (equal_any (some ⟨g7, 0, none⟩) n0 c7 xs a0 n0 c0 xs w7 (by have := PA.out.take (k := n0) (by omega); rwa [take_len P0.out.len] at this) P0.out (by omega) (by omega)).mono ?_
    rintro e w8 ⟨rfl, q8, rfl⟩
    go_wp2_with fail
    refine (staged9 g7 N7 c7 xs n0 i _ n1 _ ys (staged j zs) (w7.drewN q8) (PA.out.drewN q8) P0.out.len (P1.out.drewN q8) (by omega) (by omega)).mono ?_
    rintro e w9 ⟨rfl, q9, rfl⟩
    rw [E6.out]
    go_wp2_with fail
    refine (staged9 g7 N7 c7 (xs ++ staged i ys) N6 j _ n2 _ zs [] (w7.drewN (q8 + q9)) (PB.out.drewN (q8 + q9)) hpre.out (P2.out.drewN (q8 + q9)) (by omega) (by omega)).mono ?_
    rintro e w10 ⟨rfl, q10, rfl⟩
    rw [E7.out]
    go_wp2
    go_ret
    exact ⟨rfl, bel_drewN BB7 _⟩
  · go_enter Try.func3, Try.ntmps3
    go_wp2_with (first | (go_at_call 5; refine (zz5_yes a0 n0 c0 i none n1 c1 j (some x2) n2 c2 _ hb).mono ?_; rintro e w' ⟨rfl, rfl⟩) | (at_make; refine wpList_make_full _ rfl (.tmp 49) (.tmp 49) 22 rfl w.heap.size 5 i0 (.int .u8 0) 1 Try.underlying22 hi hz0 hz1 _ _ _ _ n2 rfl rfl (by simp) (by simp) (by rw [hz2]; omega) (by unfold maxLen; omega) (Nat.le_refl _) ?_; intro w3 hownB hgrowB; obtain ⟨curB, hclB, hcurB⟩ := made_block hownB; have hbelB : Below w.heap.size w w3 := (Below.refl _ _).grown hgrowB (Nat.le_refl _) (by intro k hk; cases hk); have HCB : Hid (w3.heap[w.heap.size]? = some (.cells curB.toArray 5 (0, 0))) := hcurB; have HB : Hid (Src w3 (some x2) n2 c2 zs) := S2.out.kept (hbelB) L2.out; clear hgrowB hownB hcurB) | (refine wpList_copy_splice rfl (.tmp 51) (.tmp 52) 22 22 rfl 5 Try.underlying22 size5 _ _ _ _ _ _ rfl rfl w.heap.size 0 curB 5 HCB.out (cellsOf zs) (by simp [cellsOf, S2.out.len]) (src_pos HB.out) (by simp [cellsOf, S2.out.len, hclB]) (cells_one zs) w.heap.size w hbelB (Nat.le_refl _) ?_; intro w4 HGB hBB))
    have ORB : Own w.heap.size w4 (some ⟨w.heap.size, 0, none⟩) n2 n2 zs := own_spliced hclB S2.out.len (Nat.le_refl _) (by unfold maxLen; omega) HGB.out
    have BR : Below w.heap.size w w4 := hBB
    have SR1 : Hid (Src w4 none n1 c1 ys) := S1.out.kept BR L1.out
    have LR1 : Hid (∀ x : Addr, (none : Option Addr) = some x → 0 < n1 → x.block < w4.heap.size) := fun x hx => by cases hx
    have SR2 : Hid (Src w4 (some ⟨w.heap.size, 0, none⟩) n2 n2 zs) := ORB.src S2.out.byte
    have LR2 : Hid (∀ x : Addr, some (⟨w.heap.size, 0, none⟩ : Addr) = some x → 0 < n2 → x.block < w4.heap.size) := fun x hx _ => by cases hx; exact own_lt ORB
    clear S1 L1 S2 L2 hnil1 hnil2 hclB HCB HB hbelB HGB hBB ORB
    refine (clone_any a0 n0 c0 xs _ (S0.out.kept BR L0.out) (by omega) (fun x hx hp => Nat.lt_of_lt_of_le (L0.out x hx hp) BR.size)).mono ?_
    rintro e w5 ⟨a5, c5, rfl, O5, B5⟩
    have q1 := uvLen_bd n1
    have q2 := uvLen_bd n2
    go_wp2_with fail
    refine (stage_any _ a5 n0 c5 xs i _ n1 _ ys _ O5 (SR1.out.kept B5 LR1.out) LR1.out (by omega) (by omega) B5.size).mono ?_
    rintro e w6 ⟨a6, c6, rfl, O6, B6⟩
    have B16 := B5.trans B6
    generalize e6 : n0 + 1 + uvLen n1 + n1 = N6 at *
    have E6 := hidden e6
    have b6 : N6 ≤ n0 + 3 + 1 + n1 := by omega
    have b6' : n0 < N6 := by omega
    clear e6
    go_wp2_with fail
    refine (stage_any _ a6 N6 c6 _ j _ n2 _ zs _ O6 (SR2.out.kept B16 LR2.out) LR2.out (by omega) (by omega) B16.size).mono ?_
    rintro e w7 ⟨a7, c7, rfl, O7, B7⟩
    have B17 := B16.trans B7
    have BB7 : Below w.heap.size w w7 := BR.trans (B17.mono BR.size)
    generalize e7 : N6 + 1 + uvLen n2 + n2 = N7 at *
    have E7 := hidden e7
    have b7 : N7 ≤ N6 + 3 + 1 + n2 := by omega
    have b7' : N6 < N7 := by omega
    clear e7
    obtain ⟨g7, rfl⟩ := own_head O7 (by omega)
    have P7 : Hid (Src w7 (some ⟨g7, 0, none⟩) N7 c7 (xs ++ staged i ys ++ staged j zs)) := O7.src (bytes_app (bytes_app S0.out.byte (staged_byte i ys (by rw [SR1.out.len]; omega) SR1.out.byte)) (staged_byte j zs (by rw [SR2.out.len]; omega) SR2.out.byte))
    have P0 : Hid (Src w7 a0 n0 c0 xs) := S0.out.kept BB7 L0.out
    have P1 := hidden (SR1.out.kept B17 LR1.out)
    have P2 := hidden (SR2.out.kept B17 LR2.out)
    have c7b := P7.out.cap
    clear O5 B5 O6 B6 B16 O7 B7 B17 BR SR1 LR1 SR2 LR2 S0 L0 q1 q2
    have PA : Hid (Src w7 (some ⟨g7, 0, none⟩) N7 c7 (xs ++ (staged i ys ++ staged j zs))) := by
      have := P7.out
      rwa [List.append_assoc] at this
    have PB : Hid (Src w7 (some ⟨g7, 0, none⟩) N7 c7 (xs ++ staged i ys ++ (staged j zs ++ []))) := by
      have := P7.out
      rwa [← List.append_nil (staged j zs)] at this
    have hpre : Hid ((xs ++ staged i ys).length = N6) := by
      show _ = _
      rw [List.length_append, staged_length, P0.out.len, P1.out.len, ← E6.out]; omega
    go_wp2_with fail
    refine (equal_any (some ⟨g7, 0, none⟩) n0 c7 xs a0 n0 c0 xs w7 (by have := PA.out.take (k := n0) (by omega); rwa [take_len P0.out.len] at this) P0.out (by omega) (by omega)).mono ?_
    rintro e w8 ⟨rfl, q8, rfl⟩
    go_wp2_with fail
    refine (staged9 g7 N7 c7 xs n0 i _ n1 _ ys (staged j zs) (w7.drewN q8) (PA.out.drewN q8) P0.out.len (P1.out.drewN q8) (by omega) (by omega)).mono ?_
    rintro e w9 ⟨rfl, q9, rfl⟩
    rw [E6.out]
    go_wp2_with fail
    refine (staged9 g7 N7 c7 (xs ++ staged i ys) N6 j _ n2 _ zs [] (w7.drewN (q8 + q9)) (PB.out.drewN (q8 + q9)) hpre.out (P2.out.drewN (q8 + q9)) (by omega) (by omega)).mono ?_
    rintro e w10 ⟨rfl, q10, rfl⟩
    rw [E7.out]
    go_wp2
    go_ret
    exact ⟨rfl, bel_drewN BB7 _⟩
  · go_enter Try.func3, Try.ntmps3
    go_wp2_with (first | (go_at_call 5; refine (zz5_yes a0 n0 c0 i (some x1) n1 c1 j none n2 c2 _ hb).mono ?_; rintro e w' ⟨rfl, rfl⟩) | (at_make; refine wpList_make_full _ rfl (.tmp 40) (.tmp 40) 22 rfl w.heap.size 5 i0 (.int .u8 0) 1 Try.underlying22 hi hz0 hz1 _ _ _ _ n1 rfl rfl (by simp) (by simp) (by rw [hz2]; omega) (by unfold maxLen; omega) (Nat.le_refl _) ?_; intro w1 hownA hgrowA; obtain ⟨curA, hclA, hcurA⟩ := made_block hownA; have hbelA : Below w.heap.size w w1 := (Below.refl _ _).grown hgrowA (Nat.le_refl _) (by intro k hk; cases hk); have HCA : Hid (w1.heap[w.heap.size]? = some (.cells curA.toArray 5 (0, 0))) := hcurA; have HA : Hid (Src w1 (some x1) n1 c1 ys) := S1.out.kept (hbelA) L1.out; clear hgrowA hownA hcurA) | (refine wpList_copy_splice rfl (.tmp 42) (.tmp 43) 22 22 rfl 5 Try.underlying22 size5 _ _ _ _ _ _ rfl rfl w.heap.size 0 curA 5 HCA.out (cellsOf ys) (by simp [cellsOf, S1.out.len]) (src_pos HA.out) (by simp [cellsOf, S1.out.len, hclA]) (cells_one ys) w.heap.size w hbelA (Nat.le_refl _) ?_; intro w2 HGA hBA))
    have ORA : Own w.heap.size w2 (some ⟨w.heap.size, 0, none⟩) n1 n1 ys := own_spliced hclA S1.out.len (Nat.le_refl _) (by unfold maxLen; omega) HGA.out
    have BR : Below w.heap.size w w2 := hBA
    have SR1 : Hid (Src w2 (some ⟨w.heap.size, 0, none⟩) n1 n1 ys) := (ORA.src S1.out.byte)
    have LR1 : Hid (∀ x : Addr, some (⟨w.heap.size, 0, none⟩ : Addr) = some x → 0 < n1 → x.block < w2.heap.size) := fun x hx _ => by cases hx; exact own_lt ORA
    have SR2 : Hid (Src w2 none n2 c2 zs) := S2.out.kept BR L2.out
    have LR2 : Hid (∀ x : Addr, (none : Option Addr) = some x → 0 < n2 → x.block < w2.heap.size) := fun x hx => by cases hx
    clear S1 L1 S2 L2 hnil1 hnil2 hclA HCA HA hbelA HGA hBA ORA
    refine (clone_any a0 n0 c0 xs _ (S0.out.kept BR L0.out) (by omega) (fun x hx hp => Nat.lt_of_lt_of_le (L0.out x hx hp) BR.size)).mono ?_
    rintro e w5 ⟨a5, c5, rfl, O5, B5⟩
    have q1 := uvLen_bd n1
    have q2 := uvLen_bd n2
    go_wp2_with fail
    refine (stage_any _ a5 n0 c5 xs i _ n1 _ ys _ O5 (SR1.out.kept B5 LR1.out) LR1.out (by omega) (by omega) B5.size).mono ?_
    rintro e w6 ⟨a6, c6, rfl, O6, B6⟩
    have B16 := B5.trans B6
    generalize e6 : n0 + 1 + uvLen n1 + n1 = N6 at *
    have E6 := hidden e6
    have b6 : N6 ≤ n0 + 3 + 1 + n1 := by omega
    have b6' : n0 < N6 := by omega
    clear e6
    go_wp2_with fail
    refine (stage_any _ a6 N6 c6 _ j _ n2 _ zs _ O6 (SR2.out.kept B16 LR2.out) LR2.out (by omega) (by omega) B16.size).mono ?_
    rintro e w7 ⟨a7, c7, rfl, O7, B7⟩
    have B17 := B16.trans B7
    have BB7 : Below w.heap.size w w7 := BR.trans (B17.mono BR.size)
    generalize e7 : N6 + 1 + uvLen n2 + n2 = N7 at *
    have E7 := hidden e7
    have b7 : N7 ≤ N6 + 3 + 1 + n2 := by omega
    have b7' : N6 < N7 := by omega
    clear e7
    obtain ⟨g7, rfl⟩ := own_head O7 (by omega)
    have P7 : Hid (Src w7 (some ⟨g7, 0, none⟩) N7 c7 (xs ++ staged i ys ++ staged j zs)) := O7.src (bytes_app (bytes_app S0.out.byte (staged_byte i ys (by rw [SR1.out.len]; omega) SR1.out.byte)) (staged_byte j zs (by rw [SR2.out.len]; omega) SR2.out.byte))
    have P0 : Hid (Src w7 a0 n0 c0 xs) := S0.out.kept BB7 L0.out
    have P1 := hidden (SR1.out.kept B17 LR1.out)
    have P2 := hidden (SR2.out.kept B17 LR2.out)
    have c7b := P7.out.cap
    clear O5 B5 O6 B6 B16 O7 B7 B17 BR SR1 LR1 SR2 LR2 S0 L0 q1 q2
    have PA : Hid (Src w7 (some ⟨g7, 0, none⟩) N7 c7 (xs ++ (staged i ys ++ staged j zs))) := by
      have := P7.out
      rwa [List.append_assoc] at this
    have PB : Hid (Src w7 (some ⟨g7, 0, none⟩) N7 c7 (xs ++ staged i ys ++ (staged j zs ++ []))) := by
      have := P7.out
      rwa [← List.append_nil (staged j zs)] at this
    have hpre : Hid ((xs ++ staged i ys).length = N6) := by
      show _ = _
      rw [List.length_append, staged_length, P0.out.len, P1.out.len, ← E6.out]; omega
    go_wp2_with fail
    refine (equal_any (some ⟨g7, 0, none⟩) n0 c7 xs a0 n0 c0 xs w7 (by have := PA.out.take (k := n0) (by omega); rwa [take_len P0.out.len] at this) P0.out (by omega) (by omega)).mono ?_
    rintro e w8 ⟨rfl, q8, rfl⟩
    go_wp2_with fail
    refine (staged9 g7 N7 c7 xs n0 i _ n1 _ ys (staged j zs) (w7.drewN q8) (PA.out.drewN q8) P0.out.len (P1.out.drewN q8) (by omega) (by omega)).mono ?_
    rintro e w9 ⟨rfl, q9, rfl⟩
    rw [E6.out]
    go_wp2_with fail
    refine (staged9 g7 N7 c7 (xs ++ staged i ys) N6 j _ n2 _ zs [] (w7.drewN (q8 + q9)) (PB.out.drewN (q8 + q9)) hpre.out (P2.out.drewN (q8 + q9)) (by omega) (by omega)).mono ?_
    rintro e w10 ⟨rfl, q10, rfl⟩
    rw [E7.out]
    go_wp2
    go_ret
    exact ⟨rfl, bel_drewN BB7 _⟩
  · go_enter Try.func3, Try.ntmps3
    go_wp2_with (first | (go_at_call 5; refine (zz5_yes a0 n0 c0 i (some x1) n1 c1 j (some x2) n2 c2 _ hb).mono ?_; rintro e w' ⟨rfl, rfl⟩) | (at_make; refine wpList_make_full _ rfl (.tmp 40) (.tmp 40) 22 rfl w.heap.size 5 i0 (.int .u8 0) 1 Try.underlying22 hi hz0 hz1 _ _ _ _ n1 rfl rfl (by simp) (by simp) (by rw [hz2]; omega) (by unfold maxLen; omega) (Nat.le_refl _) ?_; intro w1 hownA hgrowA; obtain ⟨curA, hclA, hcurA⟩ := made_block hownA; have hbelA : Below w.heap.size w w1 := (Below.refl _ _).grown hgrowA (Nat.le_refl _) (by intro k hk; cases hk); have HCA : Hid (w1.heap[w.heap.size]? = some (.cells curA.toArray 5 (0, 0))) := hcurA; have HA : Hid (Src w1 (some x1) n1 c1 ys) := S1.out.kept (hbelA) L1.out; clear hgrowA hownA hcurA) | (refine wpList_copy_splice rfl (.tmp 42) (.tmp 43) 22 22 rfl 5 Try.underlying22 size5 _ _ _ _ _ _ rfl rfl w.heap.size 0 curA 5 HCA.out (cellsOf ys) (by simp [cellsOf, S1.out.len]) (src_pos HA.out) (by simp [cellsOf, S1.out.len, hclA]) (cells_one ys) w.heap.size w hbelA (Nat.le_refl _) ?_; intro w2 HGA hBA) | (at_make; refine wpList_make_full _ rfl (.tmp 49) (.tmp 49) 22 rfl w2.heap.size 5 i0 (.int .u8 0) 1 Try.underlying22 hi hz0 hz1 _ _ _ _ n2 rfl rfl (by simp) (by simp) (by rw [hz2]; omega) (by unfold maxLen; omega) (Nat.le_refl _) ?_; intro w3 hownB hgrowB; obtain ⟨curB, hclB, hcurB⟩ := made_block hownB; have hbelB : Below w2.heap.size w2 w3 := (Below.refl _ _).grown hgrowB (Nat.le_refl _) (by intro k hk; cases hk); have HCB : Hid (w3.heap[w2.heap.size]? = some (.cells curB.toArray 5 (0, 0))) := hcurB; have HB : Hid (Src w3 (some x2) n2 c2 zs) := S2.out.kept (hBA.trans (hbelB.mono hBA.size)) L2.out; clear hgrowB hownB hcurB) | (refine wpList_copy_splice rfl (.tmp 51) (.tmp 52) 22 22 rfl 5 Try.underlying22 size5 _ _ _ _ _ _ rfl rfl w2.heap.size 0 curB 5 HCB.out (cellsOf zs) (by simp [cellsOf, S2.out.len]) (src_pos HB.out) (by simp [cellsOf, S2.out.len, hclB]) (cells_one zs) w2.heap.size w2 hbelB (Nat.le_refl _) ?_; intro w4 HGB hBB))
    have ORA : Own w.heap.size w2 (some ⟨w.heap.size, 0, none⟩) n1 n1 ys := own_spliced hclA S1.out.len (Nat.le_refl _) (by unfold maxLen; omega) HGA.out
    have ORB : Own w2.heap.size w4 (some ⟨w2.heap.size, 0, none⟩) n2 n2 zs := own_spliced hclB S2.out.len (Nat.le_refl _) (by unfold maxLen; omega) HGB.out
    have BR : Below w.heap.size w w4 := hBA.trans (hBB.mono hBA.size)
    have SR1 : Hid (Src w4 (some ⟨w.heap.size, 0, none⟩) n1 n1 ys) := ((ORA.kept hBB).src S1.out.byte)
    have LR1 : Hid (∀ x : Addr, some (⟨w.heap.size, 0, none⟩ : Addr) = some x → 0 < n1 → x.block < w4.heap.size) := fun x hx _ => by cases hx; exact own_lt (ORA.kept hBB)
    have SR2 : Hid (Src w4 (some ⟨w2.heap.size, 0, none⟩) n2 n2 zs) := ORB.src S2.out.byte
    have LR2 : Hid (∀ x : Addr, some (⟨w2.heap.size, 0, none⟩ : Addr) = some x → 0 < n2 → x.block < w4.heap.size) := fun x hx _ => by cases hx; exact own_lt ORB
    clear S1 L1 S2 L2 hnil1 hnil2 hclA HCA HA hbelA HGA hBA ORA hclB HCB HB hbelB HGB hBB ORB
    refine (clone_any a0 n0 c0 xs _ (S0.out.kept BR L0.out) (by omega) (fun x hx hp => Nat.lt_of_lt_of_le (L0.out x hx hp) BR.size)).mono ?_
    rintro e w5 ⟨a5, c5, rfl, O5, B5⟩
    have q1 := uvLen_bd n1
    have q2 := uvLen_bd n2
    go_wp2_with fail
    refine (stage_any _ a5 n0 c5 xs i _ n1 _ ys _ O5 (SR1.out.kept B5 LR1.out) LR1.out (by omega) (by omega) B5.size).mono ?_
    rintro e w6 ⟨a6, c6, rfl, O6, B6⟩
    have B16 := B5.trans B6
    generalize e6 : n0 + 1 + uvLen n1 + n1 = N6 at *
    have E6 := hidden e6
    have b6 : N6 ≤ n0 + 3 + 1 + n1 := by omega
    have b6' : n0 < N6 := by omega
    clear e6
    go_wp2_with fail
    refine (stage_any _ a6 N6 c6 _ j _ n2 _ zs _ O6 (SR2.out.kept B16 LR2.out) LR2.out (by omega) (by omega) B16.size).mono ?_
    rintro e w7 ⟨a7, c7, rfl, O7, B7⟩
    have B17 := B16.trans B7
    have BB7 : Below w.heap.size w w7 := BR.trans (B17.mono BR.size)
    generalize e7 : N6 + 1 + uvLen n2 + n2 = N7 at *
    have E7 := hidden e7
    have b7 : N7 ≤ N6 + 3 + 1 + n2 := by omega
    have b7' : N6 < N7 := by omega
    clear e7
    obtain ⟨g7, rfl⟩ := own_head O7 (by omega)
    have P7 : Hid (Src w7 (some ⟨g7, 0, none⟩) N7 c7 (xs ++ staged i ys ++ staged j zs)) := O7.src (bytes_app (bytes_app S0.out.byte (staged_byte i ys (by rw [SR1.out.len]; omega) SR1.out.byte)) (staged_byte j zs (by rw [SR2.out.len]; omega) SR2.out.byte))
    have P0 : Hid (Src w7 a0 n0 c0 xs) := S0.out.kept BB7 L0.out
    have P1 := hidden (SR1.out.kept B17 LR1.out)
    have P2 := hidden (SR2.out.kept B17 LR2.out)
    have c7b := P7.out.cap
    clear O5 B5 O6 B6 B16 O7 B7 B17 BR SR1 LR1 SR2 LR2 S0 L0 q1 q2
    have PA : Hid (Src w7 (some ⟨g7, 0, none⟩) N7 c7 (xs ++ (staged i ys ++ staged j zs))) := by
      have := P7.out
      rwa [List.append_assoc] at this
    have PB : Hid (Src w7 (some ⟨g7, 0, none⟩) N7 c7 (xs ++ staged i ys ++ (staged j zs ++ []))) := by
      have := P7.out
      rwa [← List.append_nil (staged j zs)] at this
    have hpre : Hid ((xs ++ staged i ys).length = N6) := by
      show _ = _
      rw [List.length_append, staged_length, P0.out.len, P1.out.len, ← E6.out]; omega
    go_wp2_with fail
    refine (equal_any (some ⟨g7, 0, none⟩) n0 c7 xs a0 n0 c0 xs w7 (by have := PA.out.take (k := n0) (by omega); rwa [take_len P0.out.len] at this) P0.out (by omega) (by omega)).mono ?_
    rintro e w8 ⟨rfl, q8, rfl⟩
    go_wp2_with fail
    refine (staged9 g7 N7 c7 xs n0 i _ n1 _ ys (staged j zs) (w7.drewN q8) (PA.out.drewN q8) P0.out.len (P1.out.drewN q8) (by omega) (by omega)).mono ?_
    rintro e w9 ⟨rfl, q9, rfl⟩
    rw [E6.out]
    go_wp2_with fail
    refine (staged9 g7 N7 c7 (xs ++ staged i ys) N6 j _ n2 _ zs [] (w7.drewN (q8 + q9)) (PB.out.drewN (q8 + q9)) hpre.out (P2.out.drewN (q8 + q9)) (by omega) (by omega)).mono ?_
    rintro e w10 ⟨rfl, q10, rfl⟩
    rw [E7.out]
    go_wp2
    go_ret
    exact ⟨rfl, bel_drewN BB7 _⟩

theorem two_any (a0 : Option Addr) (n0 c0 : Nat) (z0 : List Int) (i : Int) (a1 : Option Addr) (n1 c1 : Nat) (z1 : List Int) (j : Int) (a2 : Option Addr) (n2 c2 : Nat) (z2 : List Int) (w : World)
    (h0 : IsRow .u8 w a0 n0 c0 z0) (h1 : IsRow .u8 w a1 n1 c1 z1) (h2 : IsRow .u8 w a2 n2 c2 z2) :
    Calls Try.prog 3 #[.slice a0 n0 c0, .int .i64 i, .slice a1 n1 c1, .int .i64 j, .slice a2 n2 c2] w fun e w' => e = .returned (.bool true) ∧ Below w.heap.size w w' := by
  by_cases h : n0 + n1 + n2 ≤ 1048576 ∧ n0 ≤ 524288 ∧ n1 ≤ 262144 ∧ n2 ≤ 262144
  · obtain ⟨e1, e2, e3, e4⟩ := h
    exact two_yes a0 n0 c0 _ i a1 n1 c1 _ j a2 n2 c2 _ w h0.src.1 h0.src.2 h1.src.1 h1.src.2 h2.src.1 h2.src.2 e1 e2 e3 e4
  · exact two_no a0 n0 c0 i a1 n1 c1 j a2 n2 c2 w h

end Go.Proofs.Qxb6614553a
