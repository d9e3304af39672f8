/-
  THE TWO LAWS' WALKS, out of the contracts.
-/
import Derived.Test.Qxb6615840aWriter
namespace Go.Proofs.Qxb6615840a
open Go.RowKit

/-- WHAT THE WALK IS TOLD OF A SLICE OF INTEGERS THAT CAME IN (the shell's own words). -/
def IsRow (k : IntKind) (w : World) (a : Option Addr) (len cap : Nat) (zs : List Int) : Prop :=
  (a = none ∧ len = 0 ∧ cap = 0 ∧ zs = []) ∨
  ∃ x, a = some x ∧ len ≤ cap ∧ cap ≤ maxLen ∧ zs.length = cap ∧ (∀ i, i < zs.length → w.cell? (x.add i) = some (.int k (zs.getD i 0))) ∧ ∀ n ∈ zs, (Lit.int k n).wf = true

theorem block_lt {w : World} {p : Addr} {v : Value} (h : w.cell? p = some v) : p.block < w.heap.size := by
  rcases Nat.lt_or_ge p.block w.heap.size with h' | h'
  · exact h'
  · simp [World.cell?, Array.getElem?_eq_none h'] at h

theorem IsRow.src {w : World} {a : Option Addr} {len cap : Nat} {zs : List Int} (h : IsRow .u8 w a len cap zs) : Src w a len cap (zs.take len) ∧ ∀ x, a = some x → 0 < len → x.block < w.heap.size := by
  rcases h with ⟨rfl, rfl, rfl, rfl⟩ | ⟨x, rfl, hl, hm, hz, hc, hw⟩
  · exact ⟨⟨rfl, Nat.le_refl _, fun _ => ⟨rfl, rfl⟩, fun x hx => by simp at hx, fun x hx => by cases hx⟩, fun x hx => by cases hx⟩
  · refine ⟨⟨by simp; omega, hl, fun e => (by cases e), fun n hn => ?_, fun y hy i hi => ?_⟩, fun y hy hp => ?_⟩
    · have := hw n (List.mem_of_mem_take hn)
      simp [Lit.wf, IntKind.min, IntKind.max, IntKind.signed, IntKind.bits] at this
      omega
    · cases hy
      rw [hc i (by omega)]
      simp [hi]
    · cases hy
      have := block_lt (hc 0 (by omega))
      rwa [block_add'] at this

theorem zz3_yes (a0 : Option Addr) (n0 c0 : Nat) (a1 : Option Addr) (n1 c1 : Nat) (a2 : Option Addr) (n2 c2 : Nat) (w : World) (h : n0 + n1 + n2 ≤ 1048576) :
    Calls Try.prog 21 #[.slice a0 n0 c0, .slice a1 n1 c1, .slice a2 n2 c2] w fun e w' => e = .returned (.bool true) ∧ w = w' := by
  go_enter Try.func21, Try.ntmps21
  go_wp2
  go_ret
  exact ⟨rfl, rfl⟩

theorem zz3_no (a0 : Option Addr) (n0 c0 : Nat) (a1 : Option Addr) (n1 c1 : Nat) (a2 : Option Addr) (n2 c2 : Nat) (w : World) (h : ¬ n0 + n1 + n2 ≤ 1048576) :
    Calls Try.prog 21 #[.slice a0 n0 c0, .slice a1 n1 c1, .slice a2 n2 c2] w fun e w' => e = .returned (.bool false) ∧ w = w' := by
  go_enter Try.func21, Try.ntmps21
  go_wp2
  all_goals
    go_ret
    exact ⟨rfl, rfl⟩

theorem apart_no (a0 : Option Addr) (n0 c0 : Nat) (a1 : Option Addr) (n1 c1 : Nat) (a2 : Option Addr) (n2 c2 : Nat) (w : World) (h : ¬ (n0 + n1 + n2 ≤ 1048576 ∧ n0 ≤ 262144 ∧ n1 ≤ 262144 ∧ n2 ≤ 262144)) :
    Calls Try.prog 6 #[.slice a0 n0 c0, .slice a1 n1 c1, .slice a2 n2 c2] w fun e w' => e = .returned (.bool true) ∧ Below w.heap.size w w' := by
  by_cases h1 : n0 + n1 + n2 ≤ 1048576
  · go_enter Try.func6, Try.ntmps6
    go_wp2_with (go_at_call 21; refine (zz3_yes a0 n0 c0 a1 n1 c1 a2 n2 c2 _ h1).mono ?_; rintro e w' ⟨rfl, rfl⟩)
    all_goals
      go_ret
      exact ⟨rfl, Below.refl _ _⟩
  · go_enter Try.func6, Try.ntmps6
    go_wp2_with (go_at_call 21; refine (zz3_no a0 n0 c0 a1 n1 c1 a2 n2 c2 _ h1).mono ?_; rintro e w' ⟨rfl, rfl⟩)
    go_ret
    exact ⟨rfl, Below.refl _ _⟩

theorem bel_drewN {B : Nat} {a w : World} (h : Below B a w) (q : Nat) : Below B a (w.drewN q) := ⟨h.os, h.tape, h.output, h.size, h.block⟩

theorem Src.take {w : World} {a : Option Addr} {n c : Nat} {xs : List Int} (h : Src w a n c xs) {k : Nat} (hk : k ≤ n) : Src w a k c (xs.take k) := by
  have hl := h.len
  have hc := h.cap
  refine ⟨by simp; omega, by omega, fun e => ?_, fun x hx => h.byte x (List.mem_of_mem_take hx), fun x e i hi => ?_⟩
  · have := h.nil e; omega
  · rw [h.cell x e i (by omega)]; simp [hi]

theorem Src.dropAt {w : World} {x : Addr} {n c : Nat} {xs : List Int} (h : Src w (some x) n c xs) {k : Nat} (hk : k ≤ n) : Src w (some (x.add k)) (n - k) (c - k) (xs.drop k) := by
  have hl := h.len
  have hc := h.cap
  refine ⟨by simp; omega, by omega, fun e => (by cases e), fun x hx => h.byte x (List.mem_of_mem_drop hx), fun y e i hi => ?_⟩
  cases e
  rw [Addr.add_add, h.cell x rfl (k + i) (by omega)]
  simp [List.getElem?_drop]

theorem Src.dropEnd {w : World} {x : Addr} {n c : Nat} {xs : List Int} (h : Src w (some x) n c xs) {k : Nat} (hk : k ≤ n) (he : c = k) : Src w (some x) (n - k) 0 (xs.drop k) := by
  have hl := h.len
  have hc := h.cap
  exact ⟨by simp; omega, by omega, fun e => (by cases e), fun x hx => h.byte x (List.mem_of_mem_drop hx), fun y e i hi => by omega⟩

theorem Src.drewN {w : World} {a : Option Addr} {n c : Nat} {xs : List Int} (h : Src w a n c xs) (q : Nat) : Src (w.drewN q) a n c xs := ⟨h.len, h.cap, h.nil, h.byte, h.cell⟩

theorem bytes_app {xs ys : List Int} (hx : ∀ x ∈ xs, 0 ≤ x ∧ x ≤ 255) (hy : ∀ x ∈ ys, 0 ≤ x ∧ x ≤ 255) : ∀ x ∈ xs ++ ys, 0 ≤ x ∧ x ≤ 255 := by
  intro x h
  rcases List.mem_append.1 h with h | h
  · exact hx x h
  · exact hy x h

set_option maxHeartbeats 2000000 in
theorem apart_yes (a0 : Option Addr) (n0 c0 : Nat) (xs : List Int) (a1 : Option Addr) (n1 c1 : Nat) (ps : List Int) (a2 : Option Addr) (n2 c2 : Nat) (qs : List Int) (w : World)
    (s0 : Src w a0 n0 c0 xs) (l0 : ∀ x, a0 = some x → 0 < n0 → x.block < w.heap.size) (s1 : Src w a1 n1 c1 ps) (l1 : ∀ x, a1 = some x → 0 < n1 → x.block < w.heap.size)
    (s2 : Src w a2 n2 c2 qs) (l2 : ∀ x, a2 = some x → 0 < n2 → x.block < w.heap.size) (hb : n0 + n1 + n2 ≤ 1048576) (hb0 : n0 ≤ 262144) (hb1 : n1 ≤ 262144) (hb2 : n2 ≤ 262144) :
    Calls Try.prog 6 #[.slice a0 n0 c0, .slice a1 n1 c1, .slice a2 n2 c2] w fun e w' => e = .returned (.bool true) ∧ Below w.heap.size w w' := by
  have S0 : Hid (Src w a0 n0 c0 xs) := s0
  have S1 : Hid (Src w a1 n1 c1 ps) := s1
  have S2 : Hid (Src w a2 n2 c2 qs) := s2
  have L0 : Hid (∀ x, a0 = some x → 0 < n0 → x.block < w.heap.size) := l0
  have L1 : Hid (∀ x, a1 = some x → 0 < n1 → x.block < w.heap.size) := l1
  have L2 : Hid (∀ x, a2 = some x → 0 < n2 → x.block < w.heap.size) := l2
  clear s0 s1 s2 l0 l1 l2
  go_enter Try.func6, Try.ntmps6
  go_wp2_with (go_at_call 21; refine (zz3_yes a0 n0 c0 a1 n1 c1 a2 n2 c2 _ hb).mono ?_; rintro e w' ⟨rfl, rfl⟩)
  refine (copy_any a0 n0 c0 xs _ S0.out (by omega) L0.out).mono ?_
  rintro e w1 ⟨aa, ca, rfl, O1, B1⟩
  go_wp2_with fail
  refine (new_any aa n0 ca xs w.heap.size _ O1 B1.size).mono ?_
  rintro e w2 ⟨rfl, W2, B2⟩
  have BB2 : Below w.heap.size w w2 := B1.trans (B2.mono B1.size)
  go_wp2_with fail
  refine (write_any w.heap.size _ aa n0 ca xs a1 n1 c1 ps _ W2 (S1.out.kept BB2 L1.out) (by omega) BB2.size).mono ?_
  rintro e w3 ⟨rfl, a3, c3, W3, B3⟩
  have BB3 : Below w.heap.size w w3 := BB2.trans B3
  go_wp2_with fail
  refine (copy_any a0 n0 c0 xs _ (S0.out.kept BB3 L0.out) (by omega) (fun x hx hp => Nat.lt_of_lt_of_le (L0.out x hx hp) BB3.size)).mono ?_
  rintro e w4 ⟨a4, c4, rfl, O4, B4⟩
  have BB4 : Below w.heap.size w w4 := BB3.trans (B4.mono BB3.size)
  go_wp2_with fail
  refine (new_any a4 n0 c4 xs w3.heap.size _ O4 B4.size).mono ?_
  rintro e w5 ⟨rfl, W5, B5⟩
  have B35 : Below w3.heap.size w3 w5 := B4.trans (B5.mono B4.size)
  have BB5 : Below w.heap.size w w5 := BB3.trans (B35.mono BB3.size)
  go_wp2_with fail
  refine (write_any w3.heap.size _ a4 n0 c4 xs a2 n2 c2 qs _ W5 (S2.out.kept BB5 L2.out) (by omega) B35.size).mono ?_
  rintro e w6 ⟨rfl, a6, c6, W6, B6⟩
  have B36 : Below w3.heap.size w3 w6 := B35.trans B6
  have BB6 : Below w.heap.size w w6 := BB3.trans (B36.mono BB3.size)
  have W3' := W3.kept B36
  have g3 := W3'.cell
  have g6 := W6.cell
  have q3 := W3'.own.src (bytes_app S0.out.byte S1.out.byte)
  have q6 := W6.own.src (bytes_app S0.out.byte S2.out.byte)
  have p1 := S1.out.kept BB6 L1.out
  have p2 := S2.out.kept BB6 L2.out
  have P3 : Hid (Src w6 a3 (n0 + n1) c3 (xs ++ ps)) := q3
  have P6 : Hid (Src w6 a6 (n0 + n2) c6 (xs ++ qs)) := q6
  have P1 : Hid (Src w6 a1 n1 c1 ps) := p1
  have P2 : Hid (Src w6 a2 n2 c2 qs) := p2
  clear q3 q6 p1 p2 W3' W6 W3 W5 O4 O1 W2 B1 B2 B3 B4 B5 B6 B35 B36
  go_wp2_with fail
  refine (out_any a3 (n0 + n1) c3 _ _ g3).mono ?_
  rintro e w7 ⟨rfl, rfl⟩
  go_wp2_with fail
  refine (out_any a6 (n0 + n2) c6 _ _ g6).mono ?_
  rintro e w7 ⟨rfl, rfl⟩
  go_wp2_with fail
  refine (equal_any a3 (n0 + n1) c3 (xs ++ ps) a6 (n0 + n2) c6 (xs ++ qs) _ P3.out P6.out (by omega) (by omega)).mono ?_
  rintro e w7 ⟨rfl, q7, rfl⟩
  go_wp2_with fail
  refine (equal_any a1 n1 c1 ps a2 n2 c2 qs _ (P1.out.drewN q7) (P2.out.drewN q7) (by omega) (by omega)).mono ?_
  rintro e w8 ⟨rfl, q8, rfl⟩
  go_wp2
  go_ret
  refine ⟨ret_bool ?_, bel_drewN BB6 _⟩
  simp

theorem zz2_yes (a0 : Option Addr) (n0 c0 : Nat) (a1 : Option Addr) (n1 c1 : Nat) (k : Int) (w : World) (h : n0 + n1 ≤ 1048576) :
    Calls Try.prog 16 #[.slice a0 n0 c0, .slice a1 n1 c1, .int .i64 k] w fun e w' => e = .returned (.bool true) ∧ w = w' := by
  go_enter Try.func16, Try.ntmps16
  go_wp2
  go_ret
  exact ⟨rfl, rfl⟩

theorem zz2_no (a0 : Option Addr) (n0 c0 : Nat) (a1 : Option Addr) (n1 c1 : Nat) (k : Int) (w : World) (h : ¬ n0 + n1 ≤ 1048576) :
    Calls Try.prog 16 #[.slice a0 n0 c0, .slice a1 n1 c1, .int .i64 k] w fun e w' => e = .returned (.bool false) ∧ w = w' := by
  go_enter Try.func16, Try.ntmps16
  go_wp2
  all_goals
    go_ret
    exact ⟨rfl, rfl⟩

theorem split_no (a0 : Option Addr) (n0 c0 : Nat) (a1 : Option Addr) (n1 c1 : Nat) (k : Int) (w : World) (h : ¬ (n0 + n1 ≤ 1048576 ∧ n0 ≤ 524288 ∧ n1 ≤ 524288 ∧ 0 ≤ k ∧ k ≤ n1)) :
    Calls Try.prog 5 #[.slice a0 n0 c0, .slice a1 n1 c1, .int .i64 k] w fun e w' => e = .returned (.bool true) ∧ Below w.heap.size w w' := by
  by_cases h1 : n0 + n1 ≤ 1048576
  · go_enter Try.func5, Try.ntmps5
    go_wp2_with (go_at_call 16; refine (zz2_yes a0 n0 c0 a1 n1 c1 k _ h1).mono ?_; rintro e w' ⟨rfl, rfl⟩)
    all_goals
      go_ret
      exact ⟨rfl, Below.refl _ _⟩
  · go_enter Try.func5, Try.ntmps5
    go_wp2_with (go_at_call 16; refine (zz2_no a0 n0 c0 a1 n1 c1 k _ h1).mono ?_; rintro e w' ⟨rfl, rfl⟩)
    go_ret
    exact ⟨rfl, Below.refl _ _⟩

set_option maxHeartbeats 2000000 in
theorem split_nil (a0 : Option Addr) (n0 c0 : Nat) (xs : List Int) (w : World)
    (s0 : Src w a0 n0 c0 xs) (l0 : ∀ x, a0 = some x → 0 < n0 → x.block < w.heap.size)
    (hb0 : n0 ≤ 524288) :
    Calls Try.prog 5 #[.slice a0 n0 c0, .slice none 0 0, .int .i64 0] w fun e w' => e = .returned (.bool true) ∧ Below w.heap.size w w' := by
  have S0 : Hid (Src w a0 n0 c0 xs) := s0
  have L0 : Hid (∀ x, a0 = some x → 0 < n0 → x.block < w.heap.size) := l0
  have S1 : ∀ v, Hid (Src v none 0 0 []) := fun v => ⟨rfl, Nat.le_refl _, fun _ => ⟨rfl, rfl⟩, fun x hx => (by simp at hx), fun x hx => by cases hx⟩
  clear s0 l0
  go_enter Try.func5, Try.ntmps5
  go_wp2_with (go_at_call 16; refine (zz2_yes a0 n0 c0 none 0 0 0 _ (by omega)).mono ?_; rintro e w' ⟨rfl, rfl⟩)
  refine (copy_any a0 n0 c0 xs _ S0.out (by omega) L0.out).mono ?_
  rintro e w1 ⟨aa, ca, rfl, O1, B1⟩
  go_wp2_with fail
  refine (new_any aa n0 ca xs w.heap.size _ O1 B1.size).mono ?_
  rintro e w2 ⟨rfl, W2, B2⟩
  have BB2 : Below w.heap.size w w2 := B1.trans (B2.mono B1.size)
  go_wp2_with fail
  refine (write_any w.heap.size _ aa n0 ca xs none 0 0 [] _ W2 (S1 _).out (by omega) BB2.size).mono ?_
  rintro e w3 ⟨rfl, a3, c3, W3, B3⟩
  have BB3 : Below w.heap.size w w3 := BB2.trans B3
  go_wp2_with fail
  refine (copy_any a0 n0 c0 xs _ (S0.out.kept BB3 L0.out) (by omega) (fun x hx hp => Nat.lt_of_lt_of_le (L0.out x hx hp) BB3.size)).mono ?_
  rintro e w4 ⟨a4, c4, rfl, O4, B4⟩
  have BB4 : Below w.heap.size w w4 := BB3.trans (B4.mono BB3.size)
  go_wp2_with fail
  refine (new_any a4 n0 c4 xs w3.heap.size _ O4 B4.size).mono ?_
  rintro e w5 ⟨rfl, W5, B5⟩
  have B35 : Below w3.heap.size w3 w5 := B4.trans (B5.mono B4.size)
  have BB5 : Below w.heap.size w w5 := BB3.trans (B35.mono BB3.size)
  go_wp2_with fail
  refine (write_any w3.heap.size _ a4 n0 c4 xs none 0 0 [] _ W5 (S1 _).out (by omega) B35.size).mono ?_
  rintro e w6 ⟨rfl, a6, c6, W6, B6⟩
  have B36 : Below w3.heap.size w3 w6 := B35.trans B6
  go_wp2_with fail
  refine (write_any w3.heap.size _ a6 (n0 + 0) c6 (xs ++ []) none 0 0 [] _ W6 (S1 _).out (by omega) B36.size).mono ?_
  rintro e w7 ⟨rfl, a7, c7, W7, B7⟩
  have B37 : Below w3.heap.size w3 w7 := B36.trans B7
  have BB7 : Below w.heap.size w w7 := BB3.trans (B37.mono BB3.size)
  have W3' := W3.kept B37
  have g3 := W3'.cell
  have g7 := W7.cell
  have P3 : Hid (Src w7 a3 (n0 + 0) c3 (xs ++ [])) := W3'.own.src (by simpa using S0.out.byte)
  have P7 : Hid (Src w7 a7 (n0 + 0 + 0) c7 (xs ++ [] ++ [])) := W7.own.src (by simpa using S0.out.byte)
  have P0 : Hid (Src w7 a0 n0 c0 xs) := S0.out.kept BB7 L0.out
  clear W3' W6 W3 W5 O4 O1 W2 W7 B1 B2 B3 B4 B5 B6 B7 B35 B36 B37
  go_wp2_with fail
  refine (out_any a3 (n0 + 0) c3 _ _ g3).mono ?_
  rintro e w8 ⟨rfl, rfl⟩
  go_wp2_with fail
  refine (join_any a3 (n0 + 0) c3 a0 n0 c0 xs none 0 0 [] _ P3.out P0.out (S1 _).out (by omega) (by omega)).mono ?_
  rintro e w8 ⟨rfl, q8, rfl⟩
  go_wp2_with fail
  refine (out_any a7 (n0 + 0 + 0) c7 _ (w7.drewN q8) g7).mono ?_
  rintro e w9 ⟨rfl, rfl⟩
  go_wp2_with fail
  refine (join_any a7 n0 c7 a0 n0 c0 xs none 0 0 [] (w7.drewN q8) (by simpa using P7.out.drewN q8) (P0.out.drewN q8) (S1 _).out (by omega) (by omega)).mono ?_
  rintro e w9 ⟨rfl, q9, rfl⟩
  go_wp2
  go_ret
  exact ⟨rfl, bel_drewN BB7 _⟩

set_option maxHeartbeats 2000000 in
theorem split_yes (a0 : Option Addr) (n0 c0 : Nat) (xs : List Int) (x1 : Addr) (n1 c1 : Nat) (ps : List Int) (k : Nat) (w : World)
    (s0 : Src w a0 n0 c0 xs) (l0 : ∀ x, a0 = some x → 0 < n0 → x.block < w.heap.size) (s1 : Src w (some x1) n1 c1 ps) (l1 : ∀ x, some x1 = some x → 0 < n1 → x.block < w.heap.size)
    (hb : n0 + n1 ≤ 1048576) (hb0 : n0 ≤ 524288) (hb1 : n1 ≤ 524288) (hk : k ≤ n1) (hc : c1 ≤ maxLen) (hkc : k < c1) :
    Calls Try.prog 5 #[.slice a0 n0 c0, .slice (some x1) n1 c1, .int .i64 k] w fun e w' => e = .returned (.bool true) ∧ Below w.heap.size w w' := by
  have hcap := s1.cap
  unfold maxLen at hc
  have S0 : Hid (Src w a0 n0 c0 xs) := s0
  have S1 : Hid (Src w (some x1) n1 c1 ps) := s1
  have L0 : Hid (∀ x, a0 = some x → 0 < n0 → x.block < w.heap.size) := l0
  have L1 : Hid (∀ x, some x1 = some x → 0 < n1 → x.block < w.heap.size) := l1
  clear s0 s1 l0 l1
  go_enter Try.func5, Try.ntmps5
  go_wp2_with (go_at_call 16; refine (zz2_yes a0 n0 c0 (some x1) n1 c1 k _ hb).mono ?_; rintro e w' ⟨rfl, rfl⟩)
  refine (copy_any a0 n0 c0 xs _ S0.out (by omega) L0.out).mono ?_
  rintro e w1 ⟨aa, ca, rfl, O1, B1⟩
  go_wp2_with fail
  refine (new_any aa n0 ca xs w.heap.size _ O1 B1.size).mono ?_
  rintro e w2 ⟨rfl, W2, B2⟩
  have BB2 : Below w.heap.size w w2 := B1.trans (B2.mono B1.size)
  go_wp2_with fail
  refine (write_any w.heap.size _ aa n0 ca xs (some x1) n1 c1 ps _ W2 (S1.out.kept BB2 L1.out) (by omega) BB2.size).mono ?_
  rintro e w3 ⟨rfl, a3, c3, W3, B3⟩
  have BB3 : Below w.heap.size w w3 := BB2.trans B3
  go_wp2_with fail
  refine (copy_any a0 n0 c0 xs _ (S0.out.kept BB3 L0.out) (by omega) (fun x hx hp => Nat.lt_of_lt_of_le (L0.out x hx hp) BB3.size)).mono ?_
  rintro e w4 ⟨a4, c4, rfl, O4, B4⟩
  have BB4 : Below w.heap.size w w4 := BB3.trans (B4.mono BB3.size)
  go_wp2_with fail
  refine (new_any a4 n0 c4 xs w3.heap.size _ O4 B4.size).mono ?_
  rintro e w5 ⟨rfl, W5, B5⟩
  have B35 : Below w3.heap.size w3 w5 := B4.trans (B5.mono B4.size)
  have BB5 : Below w.heap.size w w5 := BB3.trans (B35.mono BB3.size)
  go_wp2_with fail
  refine (write_any w3.heap.size _ a4 n0 c4 xs (some x1) k c1 (ps.take k) _ W5 ((S1.out.kept BB5 L1.out).take hk) (by omega) B35.size).mono ?_
  rintro e w6 ⟨rfl, a6, c6, W6, B6⟩
  have B36 : Below w3.heap.size w3 w6 := B35.trans B6
  have BB6 : Below w.heap.size w w6 := BB3.trans (B36.mono BB3.size)
  go_wp2_with fail
  refine (write_any w3.heap.size _ a6 (n0 + k) c6 (xs ++ ps.take k) _ (n1 - k) _ (ps.drop k) _ W6 ?_ (by omega) B36.size).mono ?_
  · exact (S1.out.kept BB6 L1.out).dropAt hk
  rintro e w7 ⟨rfl, a7, c7, W7, B7⟩
  have B37 : Below w3.heap.size w3 w7 := B36.trans B7
  have BB7 : Below w.heap.size w w7 := BB3.trans (B37.mono BB3.size)
  have W3' := W3.kept B37
  have g3 := W3'.cell
  have g7 := W7.cell
  have ep : xs ++ ps.take k ++ ps.drop k = xs ++ ps := by rw [List.append_assoc, List.take_append_drop]
  have q7 := W7.own.src (by rw [ep]; exact bytes_app S0.out.byte S1.out.byte)
  rw [ep] at q7
  have P3 : Hid (Src w7 a3 (n0 + n1) c3 (xs ++ ps)) := W3'.own.src (bytes_app S0.out.byte S1.out.byte)
  have P7 : Hid (Src w7 a7 (n0 + k + (n1 - k)) c7 (xs ++ ps)) := q7
  have P0 : Hid (Src w7 a0 n0 c0 xs) := S0.out.kept BB7 L0.out
  have P1 : Hid (Src w7 (some x1) n1 c1 ps) := S1.out.kept BB7 L1.out
  clear q7 ep W3' W6 W3 W5 O4 O1 W2 W7 B1 B2 B3 B4 B5 B6 B7 B35 B36 B37
  go_wp2_with fail
  refine (out_any a3 (n0 + n1) c3 _ _ g3).mono ?_
  rintro e w8 ⟨rfl, rfl⟩
  go_wp2_with fail
  refine (join_any a3 (n0 + n1) c3 a0 n0 c0 xs (some x1) n1 c1 ps _ P3.out P0.out P1.out (by omega) (by omega)).mono ?_
  rintro e w8 ⟨rfl, q8, rfl⟩
  go_wp2_with fail
  refine (out_any a7 (n0 + k + (n1 - k)) c7 _ (w7.drewN q8) g7).mono ?_
  rintro e w9 ⟨rfl, rfl⟩
  go_wp2_with fail
  refine (join_any a7 (n0 + k + (n1 - k)) c7 a0 n0 c0 xs (some x1) n1 c1 ps _ (P7.out.drewN q8) (P0.out.drewN q8) (P1.out.drewN q8) (by omega) (by omega)).mono ?_
  rintro e w9 ⟨rfl, q9, rfl⟩
  go_wp2
  go_ret
  exact ⟨rfl, bel_drewN BB7 _⟩


set_option maxHeartbeats 2000000 in
theorem split_end (a0 : Option Addr) (n0 c0 : Nat) (xs : List Int) (x1 : Addr) (ps : List Int) (k : Nat) (w : World)
    (s0 : Src w a0 n0 c0 xs) (l0 : ∀ x, a0 = some x → 0 < n0 → x.block < w.heap.size) (s1 : Src w (some x1) k k ps) (l1 : ∀ x, some x1 = some x → 0 < k → x.block < w.heap.size)
    (hb : n0 + k ≤ 1048576) (hb0 : n0 ≤ 524288) (hb1 : k ≤ 524288) :
    Calls Try.prog 5 #[.slice a0 n0 c0, .slice (some x1) k k, .int .i64 k] w fun e w' => e = .returned (.bool true) ∧ Below w.heap.size w w' := by
  have hcap := s1.cap
  have S0 : Hid (Src w a0 n0 c0 xs) := s0
  have S1 : Hid (Src w (some x1) k k ps) := s1
  have L0 : Hid (∀ x, a0 = some x → 0 < n0 → x.block < w.heap.size) := l0
  have L1 : Hid (∀ x, some x1 = some x → 0 < k → x.block < w.heap.size) := l1
  clear s0 s1 l0 l1
  go_enter Try.func5, Try.ntmps5
  go_wp2_with (go_at_call 16; refine (zz2_yes a0 n0 c0 (some x1) k k k _ hb).mono ?_; rintro e w' ⟨rfl, rfl⟩)
  refine (copy_any a0 n0 c0 xs _ S0.out (by omega) L0.out).mono ?_
  rintro e w1 ⟨aa, ca, rfl, O1, B1⟩
  go_wp2_with fail
  refine (new_any aa n0 ca xs w.heap.size _ O1 B1.size).mono ?_
  rintro e w2 ⟨rfl, W2, B2⟩
  have BB2 : Below w.heap.size w w2 := B1.trans (B2.mono B1.size)
  go_wp2_with fail
  refine (write_any w.heap.size _ aa n0 ca xs (some x1) k k ps _ W2 (S1.out.kept BB2 L1.out) (by omega) BB2.size).mono ?_
  rintro e w3 ⟨rfl, a3, c3, W3, B3⟩
  have BB3 : Below w.heap.size w w3 := BB2.trans B3
  go_wp2_with fail
  refine (copy_any a0 n0 c0 xs _ (S0.out.kept BB3 L0.out) (by omega) (fun x hx hp => Nat.lt_of_lt_of_le (L0.out x hx hp) BB3.size)).mono ?_
  rintro e w4 ⟨a4, c4, rfl, O4, B4⟩
  have BB4 : Below w.heap.size w w4 := BB3.trans (B4.mono BB3.size)
  go_wp2_with fail
  refine (new_any a4 n0 c4 xs w3.heap.size _ O4 B4.size).mono ?_
  rintro e w5 ⟨rfl, W5, B5⟩
  have B35 : Below w3.heap.size w3 w5 := B4.trans (B5.mono B4.size)
  have BB5 : Below w.heap.size w w5 := BB3.trans (B35.mono BB3.size)
  go_wp2_with fail
  refine (write_any w3.heap.size _ a4 n0 c4 xs (some x1) k k (ps.take k) _ W5 ((S1.out.kept BB5 L1.out).take (Nat.le_refl _)) (by omega) B35.size).mono ?_
  rintro e w6 ⟨rfl, a6, c6, W6, B6⟩
  have B36 : Below w3.heap.size w3 w6 := B35.trans B6
  have BB6 : Below w.heap.size w w6 := BB3.trans (B36.mono BB3.size)
  go_wp2_with fail
  refine (write_any w3.heap.size _ a6 (n0 + k) c6 (xs ++ ps.take k) _ 0 _ (ps.drop k) _ W6 ?_ (by omega) B36.size).mono ?_
  · simpa using (S1.out.kept BB6 L1.out).dropEnd (Nat.le_refl _) rfl
  rintro e w7 ⟨rfl, a7, c7, W7, B7⟩
  have B37 : Below w3.heap.size w3 w7 := B36.trans B7
  have BB7 : Below w.heap.size w w7 := BB3.trans (B37.mono BB3.size)
  have W3' := W3.kept B37
  have g3 := W3'.cell
  have g7 := W7.cell
  have ep : xs ++ ps.take k ++ ps.drop k = xs ++ ps := by rw [List.append_assoc, List.take_append_drop]
  have q7 := W7.own.src (by rw [ep]; exact bytes_app S0.out.byte S1.out.byte)
  rw [ep] at q7
  have P3 : Hid (Src w7 a3 (n0 + k) c3 (xs ++ ps)) := W3'.own.src (bytes_app S0.out.byte S1.out.byte)
  have P7 : Hid (Src w7 a7 (n0 + k + 0) c7 (xs ++ ps)) := q7
  have P0 : Hid (Src w7 a0 n0 c0 xs) := S0.out.kept BB7 L0.out
  have P1 : Hid (Src w7 (some x1) k k ps) := S1.out.kept BB7 L1.out
  clear q7 ep W3' W6 W3 W5 O4 O1 W2 W7 B1 B2 B3 B4 B5 B6 B7 B35 B36 B37
  go_wp2_with fail
  refine (out_any a3 (n0 + k) c3 _ _ g3).mono ?_
  rintro e w8 ⟨rfl, rfl⟩
  go_wp2_with fail
  refine (join_any a3 (n0 + k) c3 a0 n0 c0 xs (some x1) k k ps _ P3.out P0.out P1.out (by omega) (by omega)).mono ?_
  rintro e w8 ⟨rfl, q8, rfl⟩
  go_wp2_with fail
  refine (out_any a7 (n0 + k + 0) c7 _ (w7.drewN q8) g7).mono ?_
  rintro e w9 ⟨rfl, rfl⟩
  go_wp2_with fail
  refine (join_any a7 (n0 + k + 0) c7 a0 n0 c0 xs (some x1) k k ps _ (P7.out.drewN q8) (P0.out.drewN q8) (P1.out.drewN q8) (by omega) (by omega)).mono ?_
  rintro e w9 ⟨rfl, q9, rfl⟩
  go_wp2
  go_ret
  exact ⟨rfl, bel_drewN BB7 _⟩


theorem split_any (a0 : Option Addr) (n0 c0 : Nat) (z0 : List Int) (a1 : Option Addr) (n1 c1 : Nat) (z1 : List Int) (k : Int) (w : World) (h0 : IsRow .u8 w a0 n0 c0 z0) (h1 : IsRow .u8 w a1 n1 c1 z1) :
    Calls Try.prog 5 #[.slice a0 n0 c0, .slice a1 n1 c1, .int .i64 k] w fun e w' => e = .returned (.bool true) ∧ Below w.heap.size w w' := by
  by_cases h : n0 + n1 ≤ 1048576 ∧ n0 ≤ 524288 ∧ n1 ≤ 524288 ∧ 0 ≤ k ∧ k ≤ n1
  · obtain ⟨e1, e2, e3, e4, e5⟩ := h
    obtain ⟨kn, rfl⟩ := Int.eq_ofNat_of_zero_le e4
    obtain ⟨s0, l0⟩ := h0.src
    obtain ⟨s1, l1⟩ := h1.src
    cases a1 with
    | none =>
      obtain ⟨rfl, rfl⟩ := s1.nil rfl
      obtain rfl : kn = 0 := by omega
      exact split_nil a0 n0 c0 _ w s0 l0 e2
    | some x1 =>
      have hm : c1 ≤ maxLen := by
        rcases h1 with ⟨hx, _⟩ | ⟨x, _, _, hm, _⟩
        · cases hx
        · exact hm
      have hc := s1.cap
      by_cases hk : kn < c1
      · exact split_yes a0 n0 c0 _ x1 n1 c1 _ kn w s0 l0 s1 l1 e1 e2 e3 (by omega) hm hk
      · obtain rfl : c1 = kn := by omega
        obtain rfl : n1 = c1 := by omega
        exact split_end a0 n0 c0 _ x1 _ n1 w s0 l0 s1 l1 e1 e2 e3
  · exact split_no a0 n0 c0 a1 n1 c1 k w h

theorem apart_any (a0 : Option Addr) (n0 c0 : Nat) (z0 : List Int) (a1 : Option Addr) (n1 c1 : Nat) (z1 : List Int) (a2 : Option Addr) (n2 c2 : Nat) (z2 : List Int) (w : World)
    (h0 : IsRow .u8 w a0 n0 c0 z0) (h1 : IsRow .u8 w a1 n1 c1 z1) (h2 : IsRow .u8 w a2 n2 c2 z2) :
    Calls Try.prog 6 #[.slice a0 n0 c0, .slice a1 n1 c1, .slice a2 n2 c2] w fun e w' => e = .returned (.bool true) ∧ Below w.heap.size w w' := by
  by_cases h : n0 + n1 + n2 ≤ 1048576 ∧ n0 ≤ 262144 ∧ n1 ≤ 262144 ∧ n2 ≤ 262144
  · obtain ⟨e1, e2, e3, e4⟩ := h
    exact apart_yes a0 n0 c0 _ a1 n1 c1 _ a2 n2 c2 _ w h0.src.1 h0.src.2 h1.src.1 h1.src.2 h2.src.1 h2.src.2 e1 e2 e3 e4
  · exact apart_no a0 n0 c0 a1 n1 c1 a2 n2 c2 w h

end Go.Proofs.Qxb6615840a
