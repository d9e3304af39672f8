/-
  THE WALK OF FnAppendStagedIsPrefixFreeOfHighBits.
-/
import Derived.Test.Qxb6614553aStage
namespace Go.Proofs.Qxb6614553a
open Go.RowKit

theorem zz10_yes (a0 : Option Addr) (n0 c0 : Nat) (i : Int) (a1 : Option Addr) (n1 c1 : Nat) (w : World) (h : n0 + n1 ≤ 1048576) :
    Calls Try.prog 10 #[.slice a0 n0 c0, .int .i64 i, .slice a1 n1 c1] w fun e w' => e = .returned (.bool true) ∧ w = w' := by
  go_enter Try.func10, Try.ntmps10
  go_wp2
  go_ret
  exact ⟨rfl, rfl⟩

theorem zz10_no (a0 : Option Addr) (n0 c0 : Nat) (i : Int) (a1 : Option Addr) (n1 c1 : Nat) (w : World) (h : ¬ n0 + n1 ≤ 1048576) :
    Calls Try.prog 10 #[.slice a0 n0 c0, .int .i64 i, .slice a1 n1 c1] w fun e w' => e = .returned (.bool false) ∧ w = w' := by
  go_enter Try.func10, Try.ntmps10
  go_wp2
  all_goals
    go_ret
    exact ⟨rfl, rfl⟩

theorem high_no (a0 : Option Addr) (n0 c0 : Nat) (i : Int) (a1 : Option Addr) (n1 c1 : Nat) (w : World) (h : ¬ (n0 + n1 ≤ 1048576 ∧ n0 ≤ 524288 ∧ n1 ≤ 524288)) :
    Calls Try.prog 4 #[.slice a0 n0 c0, .int .i64 i, .slice a1 n1 c1] w fun e w' => e = .returned (.bool true) ∧ Below w.heap.size w w' := by
  by_cases h1 : n0 + n1 ≤ 1048576
  · by_cases h2 : n0 ≤ 524288
    · have h3 : 524288 < n1 := by omega
      go_enter Try.func4, Try.ntmps4
      go_wp2_with (go_at_call 10; refine (zz10_yes a0 n0 c0 i a1 n1 c1 _ h1).mono ?_; rintro e w' ⟨rfl, rfl⟩)
      go_ret
      exact ⟨rfl, Below.refl _ _⟩
    · go_enter Try.func4, Try.ntmps4
      go_wp2_with (go_at_call 10; refine (zz10_yes a0 n0 c0 i a1 n1 c1 _ h1).mono ?_; rintro e w' ⟨rfl, rfl⟩)
      go_ret
      exact ⟨rfl, Below.refl _ _⟩
  · go_enter Try.func4, Try.ntmps4
    go_wp2_with (go_at_call 10; refine (zz10_no a0 n0 c0 i a1 n1 c1 _ h1).mono ?_; rintro e w' ⟨rfl, rfl⟩)
    go_ret
    exact ⟨rfl, Below.refl _ _⟩

theorem uvLen_step {x : Nat} (h : 128 ≤ x) (hx : x < 2097152) : uvLen x = uvLen (x / 128) + 1 := by
  unfold uvLen
  rw [if_neg (by omega)]
  by_cases h2 : x < 16384
  · rw [if_pos h2, if_pos (by omega)]
  · rw [if_neg h2, if_neg (by omega), if_pos (by omega)]

theorem hidden {p : Prop} (h : p) : Hid p := h

/-- A slice that owns something begins at the head of a row. -/
theorem own_head {base : Nat} {w : World} {a : Option Addr} {n c : Nat} {xs : List Int} (h : Own base w a n c xs) (hn : 0 < n) : ∃ g, a = some ⟨g, 0, none⟩ := by
  rcases h.2.2 with ⟨_, h0⟩ | ⟨g, cap, cur, hv, _⟩
  · omega
  · simp at hv; exact ⟨g, hv.1⟩

theorem own_lt {base : Nat} {w : World} {g n c : Nat} {xs : List Int} (h : Own base w (some ⟨g, 0, none⟩) n c xs) : g < w.heap.size := by
  rcases h.2.2 with ⟨hv, _⟩ | ⟨g', cap, cur, hv, _, hh, _⟩
  · simp at hv
  · simp at hv; obtain ⟨rfl, rfl⟩ := hv; exact lt_of_block hh

theorem Src.dropRow {w : World} {g n c : Nat} {xs : List Int} (h : Src w (some ⟨g, 0, none⟩) n c xs) {k : Nat} (hk : k ≤ n) : Src w (some ⟨g, k, none⟩) (n - k) (c - k) (xs.drop k) := by
  have := h.dropAt hk
  rwa [Addr.add_lit, Nat.zero_add] at this

theorem src_empty {w : World} (x : Addr) {xs : List Int} (h : xs = []) : Src w (some x) 0 0 xs := by
  subst h
  exact ⟨rfl, Nat.le_refl _, fun e => (by cases e), fun y hy => (by simp at hy), fun y _ i hi => by omega⟩

theorem take_len {xs ys : List Int} {n : Nat} (h : xs.length = n) : (xs ++ ys).take n = xs := by subst h; simp
theorem drop_len {xs ys : List Int} {n : Nat} (h : xs.length = n) : (xs ++ ys).drop n = ys := by subst h; simp
theorem drop_staged (i : Int) (ys : List Int) {m : Nat} (h : ys.length = m) : (staged i ys).drop (1 + uvLen m) = ys := by
  subst h
  have : staged i ys = (i % 256 :: uv ys.length) ++ ys := by simp [staged]
  rw [this]
  apply drop_len
  simp [uv_length]; omega

set_option maxRecDepth 100000 in
set_option maxHeartbeats 4000000 in
theorem high_yes (a0 : Option Addr) (n0 c0 : Nat) (xs : List Int) (i : Int) (a1 : Option Addr) (n1 c1 : Nat) (ys : List Int) (w : World)
    (s0 : Src w a0 n0 c0 xs) (l0 : ∀ x, a0 = some x → 0 < n0 → x.block < w.heap.size) (s1 : Src w a1 n1 c1 ys) (l1 : ∀ x, a1 = some x → 0 < n1 → x.block < w.heap.size)
    (hb : n0 + n1 ≤ 1048576) (hb0 : n0 ≤ 524288) (hb1 : n1 ≤ 524288) :
    Calls Try.prog 4 #[.slice a0 n0 c0, .int .i64 i, .slice a1 n1 c1] w fun e w' => e = .returned (.bool true) ∧ Below w.heap.size w w' := by
  obtain ⟨i0, hi, hz0, hz1, hz2⟩ := info_parts info5
  have S0 : Hid (Src w a0 n0 c0 xs) := s0
  have S1 : Hid (Src w a1 n1 c1 ys) := s1
  have L0 : Hid (∀ x, a0 = some x → 0 < n0 → x.block < w.heap.size) := l0
  have L1 : Hid (∀ x, a1 = some x → 0 < n1 → x.block < w.heap.size) := l1
  have hnil := fun w' => run_neq_slice_nil_any (P := Try.prog) w' 22 5 a1 n1 c1 0 0 Try.underlying22
  clear s0 s1 l0 l1
  rcases a1 with _ | x
  ·
    go_enter Try.func4, Try.ntmps4
    go_wp2_with (go_at_call 10; refine (zz10_yes a0 n0 c0 i none n1 c1 _ hb).mono ?_; rintro e w' ⟨rfl, rfl⟩)
    have BR : Below w.heap.size w w := Below.refl _ _
    have SR : Hid (Src w none n1 c1 ys) := S1
    have LR : Hid (∀ x : Addr, (none : Option Addr) = some x → 0 < n1 → x.block < w.heap.size) := fun x hx => by cases hx
    clear S1 L1 hnil

    refine (clone_any a0 n0 c0 xs _ (S0.out.kept BR L0.out) (by omega) (fun x hx hp => Nat.lt_of_lt_of_le (L0.out x hx hp) BR.size)).mono ?_
    rintro e w3 ⟨a3, c3, rfl, O3, B3⟩
    have BB3 : Below w.heap.size w w3 := BR.trans (B3.mono BR.size)
    go_wp2_with fail
    refine (stage_any _ a3 n0 c3 xs i _ n1 _ ys _ O3 (SR.out.kept B3 LR.out) LR.out (by omega) (by omega) B3.size).mono ?_
    rintro e w4 ⟨a4, c4, rfl, O4, B4⟩
    have B14 := B3.trans B4
    have BB4 : Below w.heap.size w w4 := BR.trans (B14.mono BR.size)
    go_wp2_with fail
    refine (stage_any w4.heap.size none 0 0 [] (i % 256) _ n1 _ ys _ ⟨rfl, World.ownsRow_nil _ _ _ _⟩ (SR.out.kept B14 LR.out) (fun x hx hp => Nat.lt_of_lt_of_le (LR.out x hx hp) B14.size) (by omega) (by omega) (Nat.le_refl _)).mono ?_
    rintro e w5 ⟨a5, c5, rfl, O5, B5⟩
    have BB5 : Below w.heap.size w w5 := BB4.trans (B5.mono BB4.size)
    rw [List.nil_append, staged_low] at O5
    obtain ⟨g4, rfl⟩ := own_head O4 (by omega)
    obtain ⟨g5, rfl⟩ := own_head O5 (by omega)
    have P4 : Hid (Src w5 (some ⟨g4, 0, none⟩) (n0 + 1 + uvLen n1 + n1) c4 (xs ++ staged i ys)) := (O4.kept B5).src (bytes_app S0.out.byte (staged_byte i ys (by rw [SR.out.len]; omega) SR.out.byte))
    have P5 : Hid (Src w5 (some ⟨g5, 0, none⟩) (0 + 1 + uvLen n1 + n1) c5 (staged i ys)) := O5.src (staged_byte i ys (by rw [SR.out.len]; omega) SR.out.byte)
    have P0 : Hid (Src w5 a0 n0 c0 xs) := S0.out.kept BB5 L0.out
    have P1 := hidden (SR.out.kept (B14.trans (B5.mono B14.size)) LR.out)
    have c4b := P4.out.cap
    have c5b := P5.out.cap
    have hL := uvLen_bd n1
    generalize hLe : uvLen n1 = L at *
    have LU := hidden hLe
    clear hLe
    clear O3 B3 O4 B4 B14 O5 B5 BB3 BB4 BR SR LR S0 L0
    generalize e4 : n0 + 1 + L + n1 = N4 at *
    generalize e5 : 0 + 1 + L + n1 = N5 at *
    have E4 := hidden e4
    have E5 := hidden e5
    have m4 : N4 ≤ n0 + 1 + L + n1 ∧ n0 + 1 + L + n1 ≤ N4 := by omega
    have m5 : N5 ≤ 1 + L + n1 ∧ 1 + L + n1 ≤ N5 := by omega
    clear e4 e5
    have g5c : w5.cell? ⟨g5, 0, none⟩ = some (.int .u8 (i % 256)) := by
      have := P5.out.cell _ rfl 0 (by omega)
      simpa [Addr.add, staged] using this
    go_wp2_with fail
    go_loop [11, 12] (fun k v => ∃ (kn vn : Nat), k = .int .i64 kn ∧ v = .int .i64 vn ∧ vn ≤ n1 ∧ kn ≤ 3 ∧ Hid (kn + uvLen vn = L + 1)) (fun _ v => (intOf v).toNat)
    case atStart => exact ⟨1, n1, rfl, rfl, Nat.le_refl _, by omega, by show _ = _; rw [LU.out]; omega⟩
    case round =>
      obtain ⟨kn, vn, rfl, rfl, hv, hk3, HK⟩ := hrel
      by_cases hlt : 128 ≤ vn
      · have h2 := uvLen_bd (vn / 128)
        have h3 := uvLen_step hlt (by omega)
        have h4 : kn + 1 + uvLen (vn / 128) = L + 1 := by have := HK.out; omega
        have H4 := hidden h4
        have h5 : kn + 1 ≤ 3 := by omega
        clear h2 h3 h4
        go_wp2
        go_round
        case rel => exact ⟨kn + 1, vn / 128, by go_num, by go_num, by omega, h5, H4⟩
        case measure => simp [intOf]; omega
      · obtain rfl : kn = L := by have := HK.out; rw [uvLen_one (by omega)] at this; omega
        have q1 : ((N5 : Int) != 1 + (kn : Int) + (n1 : Int)) = false := by simp; omega
        have q2 : ((N4 : Int) != (n0 : Int) + (N5 : Int)) = false := by simp; omega
        go_wp2_with fail
        refine (equal_any (some ⟨g4, 0, none⟩) n0 c4 xs a0 n0 c0 xs w5 (by have := P4.out.take (k := n0) (by omega); rwa [take_len P0.out.len] at this) P0.out (by omega) (by omega)).mono ?_
        rintro e w6 ⟨rfl, q6, rfl⟩
        have hcc : c5 = 1 + kn ∨ 1 + kn < c5 := by omega
        go_wp2_with fail
        refine (equal_any (some ⟨g4, n0, none⟩) (N4 - n0) (c4 - n0) (staged i ys) (some ⟨g5, 0, none⟩) N5 c5 (staged i ys) (w5.drewN q6) (by have := P4.out.dropRow (k := n0) (by omega); rw [drop_len P0.out.len] at this; exact this.drewN q6) (P5.out.drewN q6) (by omega) (by omega)).mono ?_
        rintro e w7 ⟨rfl, q7, rfl⟩
        have P1' := hidden (P1.out.drewN (q6 + q7))
        rcases hcc with hcc | hcc
        · subst hcc
          have hys : ys = [] := List.eq_nil_of_length_eq_zero (by rw [P1.out.len]; omega)
          have PZ := hidden (src_empty (w := w5.drewN (q6 + q7)) ⟨g5, 0, none⟩ hys)
          clear hys
          go_wp2_with fail
          refine (equal_any (some ⟨g5, 0, none⟩) 0 0 ys _ n1 _ ys (w5.drewN (q6 + q7)) PZ.out P1'.out (by omega) (by omega)).mono ?_
          rintro e w8 ⟨rfl, q8, rfl⟩
          go_wp2
          go_ret
          exact ⟨rfl, bel_drewN BB5 _⟩
        · have PZ := hidden ((P5.out.dropRow (k := 1 + kn) (by omega)).drewN (q6 + q7))
          have ez : (staged i ys).drop (1 + kn) = ys := by rw [← LU.out]; exact drop_staged i ys P1.out.len
          rw [ez] at PZ
          clear ez
          go_wp2_with fail
          refine (equal_any (some ⟨g5, 1 + kn, none⟩) (N5 - (1 + kn)) (c5 - (1 + kn)) ys _ n1 _ ys (w5.drewN (q6 + q7)) PZ.out P1'.out (by omega) (by omega)).mono ?_
          rintro e w8 ⟨rfl, q8, rfl⟩
          go_wp2
          go_ret
          exact ⟨rfl, bel_drewN BB5 _⟩
  ·
    go_enter Try.func4, Try.ntmps4
    go_wp2_with (first | (go_at_call 10; refine (zz10_yes a0 n0 c0 i (some x) n1 c1 _ hb).mono ?_; rintro e w' ⟨rfl, rfl⟩) | (at_make; refine wpList_make_full _ rfl (.tmp 29) (.tmp 29) 22 rfl w.heap.size 5 i0 (.int .u8 0) 1 Try.underlying22 hi hz0 hz1 _ _ _ _ n1 rfl rfl (by simp) (by simp) (by rw [hz2]; omega) (by unfold maxLen; omega) (Nat.le_refl _) ?_; intro w1 hown hgrow; obtain ⟨cur, hcl, hcur⟩ := made_block hown; have hbel : Below w.heap.size w w1 := (Below.refl _ _).grown hgrow (Nat.le_refl _) (by intro k hk; cases hk); have HC : Hid (w1.heap[w.heap.size]? = some (.cells cur.toArray 5 (0, 0))) := hcur; have H1 : Hid (Src w1 (some x) n1 c1 ys) := S1.out.kept hbel L1.out; clear hnil hgrow hown hcur) | (refine wpList_copy_splice rfl (.tmp 31) (.tmp 32) 22 22 rfl 5 Try.underlying22 size5 _ _ _ _ _ _ rfl rfl w.heap.size 0 cur 5 HC.out (cellsOf ys) (by simp [cellsOf, S1.out.len]) (src_pos H1.out) (by simp [cellsOf, S1.out.len, hcl]) (cells_one ys) w.heap.size w hbel (Nat.le_refl _) ?_; intro w2 HG2 hB2))
    have BR : Below w.heap.size w w2 := hB2
    have OR : Own w.heap.size w2 (some ⟨w.heap.size, 0, none⟩) n1 n1 ys := own_spliced hcl S1.out.len (Nat.le_refl _) (by unfold maxLen; omega) HG2.out
    have SR : Hid (Src w2 (some ⟨w.heap.size, 0, none⟩) n1 n1 ys) := OR.src S1.out.byte
    have LR : Hid (∀ x : Addr, some (⟨w.heap.size, 0, none⟩ : Addr) = some x → 0 < n1 → x.block < w2.heap.size) := fun x hx _ => by cases hx; exact own_lt OR
    clear S1 L1 hcl HC H1 hbel HG2 hB2 OR

    refine (clone_any a0 n0 c0 xs _ (S0.out.kept BR L0.out) (by omega) (fun x hx hp => Nat.lt_of_lt_of_le (L0.out x hx hp) BR.size)).mono ?_
    rintro e w3 ⟨a3, c3, rfl, O3, B3⟩
    have BB3 : Below w.heap.size w w3 := BR.trans (B3.mono BR.size)
    go_wp2_with fail
    refine (stage_any _ a3 n0 c3 xs i _ n1 _ ys _ O3 (SR.out.kept B3 LR.out) LR.out (by omega) (by omega) B3.size).mono ?_
    rintro e w4 ⟨a4, c4, rfl, O4, B4⟩
    have B14 := B3.trans B4
    have BB4 : Below w.heap.size w w4 := BR.trans (B14.mono BR.size)
    go_wp2_with fail
    refine (stage_any w4.heap.size none 0 0 [] (i % 256) _ n1 _ ys _ ⟨rfl, World.ownsRow_nil _ _ _ _⟩ (SR.out.kept B14 LR.out) (fun x hx hp => Nat.lt_of_lt_of_le (LR.out x hx hp) B14.size) (by omega) (by omega) (Nat.le_refl _)).mono ?_
    rintro e w5 ⟨a5, c5, rfl, O5, B5⟩
    have BB5 : Below w.heap.size w w5 := BB4.trans (B5.mono BB4.size)
    rw [List.nil_append, staged_low] at O5
    obtain ⟨g4, rfl⟩ := own_head O4 (by omega)
    obtain ⟨g5, rfl⟩ := own_head O5 (by omega)
    have P4 : Hid (Src w5 (some ⟨g4, 0, none⟩) (n0 + 1 + uvLen n1 + n1) c4 (xs ++ staged i ys)) := (O4.kept B5).src (bytes_app S0.out.byte (staged_byte i ys (by rw [SR.out.len]; omega) SR.out.byte))
    have P5 : Hid (Src w5 (some ⟨g5, 0, none⟩) (0 + 1 + uvLen n1 + n1) c5 (staged i ys)) := O5.src (staged_byte i ys (by rw [SR.out.len]; omega) SR.out.byte)
    have P0 : Hid (Src w5 a0 n0 c0 xs) := S0.out.kept BB5 L0.out
    have P1 := hidden (SR.out.kept (B14.trans (B5.mono B14.size)) LR.out)
    have c4b := P4.out.cap
    have c5b := P5.out.cap
    have hL := uvLen_bd n1
    generalize hLe : uvLen n1 = L at *
    have LU := hidden hLe
    clear hLe
    clear O3 B3 O4 B4 B14 O5 B5 BB3 BB4 BR SR LR S0 L0
    generalize e4 : n0 + 1 + L + n1 = N4 at *
    generalize e5 : 0 + 1 + L + n1 = N5 at *
    have E4 := hidden e4
    have E5 := hidden e5
    have m4 : N4 ≤ n0 + 1 + L + n1 ∧ n0 + 1 + L + n1 ≤ N4 := by omega
    have m5 : N5 ≤ 1 + L + n1 ∧ 1 + L + n1 ≤ N5 := by omega
    clear e4 e5
    have g5c : w5.cell? ⟨g5, 0, none⟩ = some (.int .u8 (i % 256)) := by
      have := P5.out.cell _ rfl 0 (by omega)
      simpa [Addr.add, staged] using this
    go_wp2_with fail
    go_loop [11, 12] (fun k v => ∃ (kn vn : Nat), k = .int .i64 kn ∧ v = .int .i64 vn ∧ vn ≤ n1 ∧ kn ≤ 3 ∧ Hid (kn + uvLen vn = L + 1)) (fun _ v => (intOf v).toNat)
    case atStart => exact ⟨1, n1, rfl, rfl, Nat.le_refl _, by omega, by show _ = _; rw [LU.out]; omega⟩
    case round =>
      obtain ⟨kn, vn, rfl, rfl, hv, hk3, HK⟩ := hrel
      by_cases hlt : 128 ≤ vn
      · have h2 := uvLen_bd (vn / 128)
        have h3 := uvLen_step hlt (by omega)
        have h4 : kn + 1 + uvLen (vn / 128) = L + 1 := by have := HK.out; omega
        have H4 := hidden h4
        have h5 : kn + 1 ≤ 3 := by omega
        clear h2 h3 h4
        go_wp2
        go_round
        case rel => exact ⟨kn + 1, vn / 128, by go_num, by go_num, by omega, h5, H4⟩
        case measure => simp [intOf]; omega
      · obtain rfl : kn = L := by have := HK.out; rw [uvLen_one (by omega)] at this; omega
        have q1 : ((N5 : Int) != 1 + (kn : Int) + (n1 : Int)) = false := by simp; omega
        have q2 : ((N4 : Int) != (n0 : Int) + (N5 : Int)) = false := by simp; omega
        go_wp2_with fail
        refine (equal_any (some ⟨g4, 0, none⟩) n0 c4 xs a0 n0 c0 xs w5 (by have := P4.out.take (k := n0) (by omega); rwa [take_len P0.out.len] at this) P0.out (by omega) (by omega)).mono ?_
        rintro e w6 ⟨rfl, q6, rfl⟩
        have hcc : c5 = 1 + kn ∨ 1 + kn < c5 := by omega
        go_wp2_with fail
        refine (equal_any (some ⟨g4, n0, none⟩) (N4 - n0) (c4 - n0) (staged i ys) (some ⟨g5, 0, none⟩) N5 c5 (staged i ys) (w5.drewN q6) (by have := P4.out.dropRow (k := n0) (by omega); rw [drop_len P0.out.len] at this; exact this.drewN q6) (P5.out.drewN q6) (by omega) (by omega)).mono ?_
        rintro e w7 ⟨rfl, q7, rfl⟩
        have P1' := hidden (P1.out.drewN (q6 + q7))
        rcases hcc with hcc | hcc
        · subst hcc
          have hys : ys = [] := List.eq_nil_of_length_eq_zero (by rw [P1.out.len]; omega)
          have PZ := hidden (src_empty (w := w5.drewN (q6 + q7)) ⟨g5, 0, none⟩ hys)
          clear hys
          go_wp2_with fail
          refine (equal_any (some ⟨g5, 0, none⟩) 0 0 ys _ n1 _ ys (w5.drewN (q6 + q7)) PZ.out P1'.out (by omega) (by omega)).mono ?_
          rintro e w8 ⟨rfl, q8, rfl⟩
          go_wp2
          go_ret
          exact ⟨rfl, bel_drewN BB5 _⟩
        · have PZ := hidden ((P5.out.dropRow (k := 1 + kn) (by omega)).drewN (q6 + q7))
          have ez : (staged i ys).drop (1 + kn) = ys := by rw [← LU.out]; exact drop_staged i ys P1.out.len
          rw [ez] at PZ
          clear ez
          go_wp2_with fail
          refine (equal_any (some ⟨g5, 1 + kn, none⟩) (N5 - (1 + kn)) (c5 - (1 + kn)) ys _ n1 _ ys (w5.drewN (q6 + q7)) PZ.out P1'.out (by omega) (by omega)).mono ?_
          rintro e w8 ⟨rfl, q8, rfl⟩
          go_wp2
          go_ret
          exact ⟨rfl, bel_drewN BB5 _⟩

theorem high_any (a0 : Option Addr) (n0 c0 : Nat) (z0 : List Int) (i : Int) (a1 : Option Addr) (n1 c1 : Nat) (z1 : List Int) (w : World) (h0 : IsRow .u8 w a0 n0 c0 z0) (h1 : IsRow .u8 w a1 n1 c1 z1) :
    Calls Try.prog 4 #[.slice a0 n0 c0, .int .i64 i, .slice a1 n1 c1] w fun e w' => e = .returned (.bool true) ∧ Below w.heap.size w w' := by
  by_cases h : n0 + n1 ≤ 1048576 ∧ n0 ≤ 524288 ∧ n1 ≤ 524288
  · obtain ⟨e1, e2, e3⟩ := h
    exact high_yes a0 n0 c0 _ i a1 n1 c1 _ w h0.src.1 h0.src.2 h1.src.1 h1.src.2 e1 e2 e3
  · exact high_no a0 n0 c0 i a1 n1 c1 w h

end Go.Proofs.Qxb6614553a
