/-
  readUvarint, readStaged by their contracts.
-/
import Derived.Test.Qxb6614553aHigh
import Derived.LoopN
namespace Go.Proofs.Qxb6614553a
open Go.RowKit

theorem ret_two {a b : Int} {p q : Int} (h : a = b) (k : p = q) : Ending.returned (.tuple #[.int .u64 a, .int .i64 p]) = .returned (.tuple #[.int .u64 b, .int .i64 q]) := by rw [h, k]

theorem or_u64n (a b : Nat) (ha : a < 18446744073709551616) (hb : b < 18446744073709551616) : bits .or .u64 (a : Int) (b : Int) = ((a ||| b : Nat) : Int) := bits_or_u64_nat a b ha hb

theorem or_first (a : Nat) (ha : a ≤ 255) : bits .or .u64 0 (a : Int) = (a : Int) := by
  have := or_u64n 0 a (by decide) (by omega)
  rw [show ((0 : Nat) : Int) = 0 from rfl] at this
  rw [this, Nat.zero_or]
theorem or_second (a b : Nat) (ha : a < 128) (hb : b < 128) : bits .or .u64 (a : Int) ((b : Int) * 128) = ((a + b * 128 : Nat) : Int) := by
  have h := or_u64n a (b * 128) (by omega) (by omega)
  have e := Nat.two_pow_add_eq_or_of_lt (i := 7) (b := a) (by omega) b
  rw [show (b : Int) * 128 = ((b * 128 : Nat) : Int) by omega, h, Nat.or_comm, Nat.mul_comm b, show (128 : Nat) = 2 ^ 7 from rfl, ← e]
  omega
theorem or_third (a b : Nat) (ha : a < 16384) (hb : b < 128) : bits .or .u64 (a : Int) ((b : Int) * 16384) = ((a + b * 16384 : Nat) : Int) := by
  have h := or_u64n a (b * 16384) (by omega) (by omega)
  have e := Nat.two_pow_add_eq_or_of_lt (i := 14) (b := a) (by omega) b
  rw [show (b : Int) * 16384 = ((b * 16384 : Nat) : Int) by omega, h, Nat.or_comm, Nat.mul_comm b, show (16384 : Nat) = 2 ^ 14 from rfl, ← e]
  omega

set_option maxHeartbeats 1600000 in
theorem read1 (b off N c : Nat) (u0 : Int) (w : World) (hN : 1 ≤ N) (h0 : 0 ≤ u0) (h0' : u0 ≤ 127)
    (g0 : w.cell? ⟨b, off, none⟩ = some (.int .u8 u0)) :
    Calls Try.prog 12 #[.slice (some ⟨b, off, none⟩) N c] w fun e w' => e = .returned (.tuple #[.int .u64 (bits .or .u64 0 u0), .int .i64 1]) ∧ w = w' := by
  go_enter Try.func12, Try.ntmps12
  go_wp2
  refine wp_loop_rounds 1 ?_
  rw [rounds_succ]
  go_wp2
  go_ret2
  exact ⟨rfl, rfl⟩

set_option maxHeartbeats 1600000 in
theorem read2 (b off N c : Nat) (u0 u1 v0 : Int) (w : World) (hN : 2 ≤ N) (hb : N ≤ 16777216) (h0 : 128 ≤ u0) (h0' : u0 ≤ 255) (h1 : 0 ≤ u1) (h1' : u1 ≤ 127)
    (e0 : bits .and .u8 u0 127 = v0) (f0 : 0 ≤ v0) (f0' : v0 ≤ 127)
    (g0 : w.cell? ⟨b, off, none⟩ = some (.int .u8 u0)) (g1 : w.cell? ⟨b, off + 1, none⟩ = some (.int .u8 u1)) :
    Calls Try.prog 12 #[.slice (some ⟨b, off, none⟩) N c] w fun e w' => e = .returned (.tuple #[.int .u64 (bits .or .u64 (bits .or .u64 0 v0) (u1 * 128)), .int .i64 2]) ∧ w = w' := by
  go_enter Try.func12, Try.ntmps12
  go_wp2
  refine wp_loop_rounds 2 ?_
  rw [rounds_succ]
  go_wp2
  rw [rounds_succ]
  go_wp2
  go_ret2
  exact ⟨rfl, rfl⟩

set_option maxHeartbeats 1600000 in
theorem read3 (b off N c : Nat) (u0 u1 u2 v0 v1 : Int) (w : World) (hN : 3 ≤ N) (hb : N ≤ 16777216) (h0 : 128 ≤ u0) (h0' : u0 ≤ 255) (h1 : 128 ≤ u1) (h1' : u1 ≤ 255) (h2 : 0 ≤ u2) (h2' : u2 ≤ 127)
    (e0 : bits .and .u8 u0 127 = v0) (e1 : bits .and .u8 u1 127 = v1) (f0 : 0 ≤ v0) (f0' : v0 ≤ 127) (f1 : 0 ≤ v1) (f1' : v1 ≤ 127)
    (g0 : w.cell? ⟨b, off, none⟩ = some (.int .u8 u0)) (g1 : w.cell? ⟨b, off + 1, none⟩ = some (.int .u8 u1)) (g2 : w.cell? ⟨b, off + 2, none⟩ = some (.int .u8 u2)) :
    Calls Try.prog 12 #[.slice (some ⟨b, off, none⟩) N c] w fun e w' => e = .returned (.tuple #[.int .u64 (bits .or .u64 (bits .or .u64 (bits .or .u64 0 v0) (v1 * 128)) (u2 * 16384)), .int .i64 3]) ∧ w = w' := by
  go_enter Try.func12, Try.ntmps12
  go_wp2
  refine wp_loop_rounds 3 ?_
  rw [rounds_succ]
  go_wp2
  rw [rounds_succ]
  go_wp2
  rw [rounds_succ]
  go_wp2
  go_ret2
  exact ⟨rfl, rfl⟩

theorem uv_two {x : Nat} (h : 128 ≤ x) (h2 : x < 16384) : uv x = [((x % 128 + 128 : Nat) : Int), ((x / 128 : Nat) : Int)] := by
  unfold uv; rw [if_neg (by omega), if_pos h2]
theorem uv_three {x : Nat} (h2 : 16384 ≤ x) : uv x = [((x % 128 + 128 : Nat) : Int), ((x / 128 % 128 + 128 : Nat) : Int), ((x / 16384 : Nat) : Int)] := by
  unfold uv; rw [if_neg (by omega), if_neg (by omega)]

/-- readUvarint, where a varint of fewer than 2^21 stands. -/
theorem read_any (a : Option Addr) (N c x : Nat) (rest : List Int) (w : World) (h : Src w a N c (uv x ++ rest)) (hx : x < 2097152) (hb : N ≤ 16777216) :
    Calls Try.prog 12 #[.slice a N c] w fun e w' => e = .returned (.tuple #[.int .u64 x, .int .i64 (uvLen x)]) ∧ w = w' := by
  have hl := h.len
  rw [List.length_append, uv_length] at hl
  have hu := uvLen_bd x
  obtain ⟨b, off, rfl, hc⟩ := h.at (k := 0) (by omega)
  by_cases h1 : x < 128
  · have hL := uvLen_one h1
    have g0 := hc 0 (by omega)
    rw [uv_small h1] at g0
    refine (read1 b off N c x w (by omega) (by omega) (by omega) (by simpa using g0)).mono ?_
    rintro e w' ⟨rfl, hw⟩
    exact ⟨ret_two (or_first x (by omega)) (by rw [hL]; rfl), hw⟩
  · by_cases h2 : x < 16384
    · have hL : uvLen x = 2 := by unfold uvLen; rw [if_neg h1, if_pos h2]
      have g0 := hc 0 (by omega)
      have g1 := hc 1 (by omega)
      rw [uv_two (by omega) h2] at g0 g1
      have lo := Nat.mod_lt x (show 128 > 0 by decide)
      refine (read2 b off N c ((x % 128 + 128 : Nat) : Int) ((x / 128 : Nat) : Int) ((x % 128 : Nat) : Int) w (by omega) hb (by omega) (by omega) (by omega) (by omega) (and_low _ lo) (by omega) (by omega) (by simpa using g0) (by simpa using g1)).mono ?_
      rintro e w' ⟨rfl, hw⟩
      refine ⟨ret_two ?_ (by rw [hL]; rfl), hw⟩
      rw [or_first _ (by omega), or_second _ _ lo (by omega)]
      omega
    · have hL : uvLen x = 3 := by unfold uvLen; rw [if_neg h1, if_neg h2]
      have g0 := hc 0 (by omega)
      have g1 := hc 1 (by omega)
      have g2 := hc 2 (by omega)
      rw [uv_three (by omega)] at g0 g1 g2
      have lo := Nat.mod_lt x (show 128 > 0 by decide)
      have mi := Nat.mod_lt (x / 128) (show 128 > 0 by decide)
      refine (read3 b off N c ((x % 128 + 128 : Nat) : Int) ((x / 128 % 128 + 128 : Nat) : Int) ((x / 16384 : Nat) : Int) ((x % 128 : Nat) : Int) ((x / 128 % 128 : Nat) : Int) w (by omega) hb (by omega) (by omega) (by omega) (by omega) (by omega) (by omega) (and_low _ lo) (and_low _ mi) (by omega) (by omega) (by omega) (by omega) (by simpa using g0) (by simpa using g1) (by simpa using g2)).mono ?_
      rintro e w' ⟨rfl, hw⟩
      refine ⟨ret_two ?_ (by rw [hL]; rfl), hw⟩
      rw [or_first _ (by omega), or_second _ _ lo mi, or_third _ _ (by omega) (by omega)]
      omega

/-- The last byte of a varint of more than one byte is not zero. -/
theorem uv_last {x : Nat} (h : 128 ≤ x) (hx : x < 2097152) : 0 < (uv x).getD (uvLen x - 1) 0 := by
  by_cases h2 : x < 16384
  · have hL : uvLen x = 2 := by unfold uvLen; rw [if_neg (by omega), if_pos h2]
    rw [hL, uv_two h h2]; simp; omega
  · have hL : uvLen x = 3 := by unfold uvLen; rw [if_neg (by omega), if_neg h2]
    rw [hL, uv_three (by omega)]; simp; omega

theorem staged_split (i : Int) (ys rest : List Int) : staged i ys ++ rest = i % 256 :: (uv ys.length ++ (ys ++ rest)) := by simp [staged]

theorem drop_cons {pre : List Int} {x : Int} {r : List Int} {p : Nat} (h : pre.length = p) : (pre ++ (x :: r)).drop (p + 1) = r := by
  subst h
  rw [show pre ++ x :: r = (pre ++ [x]) ++ r by simp]
  apply drop_len; simp

set_option maxRecDepth 100000 in
set_option maxHeartbeats 4000000 in
/-- readStaged, where a staged record stands at p. -/
theorem staged9 (g N c : Nat) (pre : List Int) (p : Nat) (i : Int) (a1 : Option Addr) (m c1 : Nat) (ys rest : List Int) (w : World)
    (hs : Src w (some ⟨g, 0, none⟩) N c (pre ++ (staged i ys ++ rest))) (hp : pre.length = p) (h1 : Src w a1 m c1 ys) (hm : m ≤ 1048576) (hN : N ≤ 16777216) :
    Calls Try.prog 9 #[.slice (some ⟨g, 0, none⟩) N c, .int .i64 p, .int .u8 (i % 256), .slice a1 m c1] w fun e w' => e = .returned (.tuple #[.int .i64 ((p + 1 + uvLen m + m : Nat) : Int), .bool true]) ∧ ∃ q, w' = w.drewN q := by
  have hc := hs.cap
  have hu := uvLen_bd m
  have hlen : p + (1 + uvLen m + m) + rest.length = N := by
    have := hs.len
    rw [List.length_append, List.length_append, staged_length, h1.len, hp] at this
    omega
  have hle : p + 1 + uvLen m + m ≤ N := by omega
  have HS1 : Hid (Src w (some ⟨g, p + 1, none⟩) (N - (p + 1)) (c - (p + 1)) (uv m ++ (ys ++ rest))) := by
    have := hs.dropRow (k := p + 1) (by omega)
    rw [staged_split, drop_cons hp, h1.len] at this
    exact this
  have g0 : w.cell? ⟨g, p, none⟩ = some (.int .u8 (i % 256)) := by
    have := hs.cell _ rfl p (by omega)
    rw [Addr.add_lit, Nat.zero_add, staged_split] at this
    rw [this]
    simp [← hp]
  have H1 : Hid (Src w a1 m c1 ys) := h1
  have HS2 : Hid (Src w (some ⟨g, p + 1 + uvLen m, none⟩) (N - (p + 1 + uvLen m)) (c - (p + 1 + uvLen m)) (ys ++ rest)) := by
    have := hs.dropRow (k := p + 1 + uvLen m) (by omega)
    rw [show (pre ++ (staged i ys ++ rest)).drop (p + 1 + uvLen m) = ys ++ rest from ?_] at this
    · exact this
    · rw [staged_split, ← List.drop_drop, drop_cons hp, h1.len]
      exact drop_len (uv_length m)
  have hz : 1 < uvLen m → ∃ z : Int, z ≠ 0 ∧ w.cell? ⟨g, p + uvLen m, none⟩ = some (.int .u8 z) := by
    intro hL
    have h128 : 128 ≤ m := by
      rcases Nat.lt_or_ge m 128 with h | h
      · rw [uvLen_one h] at hL; omega
      · exact h
    have hlast := uv_last h128 (by omega)
    refine ⟨(uv m).getD (uvLen m - 1) 0, by omega, ?_⟩
    have := HS1.out.cell _ rfl (uvLen m - 1) (by omega)
    rw [Addr.add_lit, show p + 1 + (uvLen m - 1) = p + uvLen m by omega] at this
    rw [this]
    have hlt : uvLen m - 1 < (uv m).length := by rw [uv_length]; omega
    simp [List.getElem?_append_left hlt]
  clear hs h1 hlen hp
  go_enter Try.func9, Try.ntmps9
  go_wp2_with fail
  refine (read_any (some ⟨g, p + 1, none⟩) (N - (p + 1)) (c - (p + 1)) m (ys ++ rest) w HS1.out (by omega) (by omega)).mono ?_
  rintro e w1 ⟨rfl, rfl⟩
  generalize hLe : uvLen m = L at *
  have LU := hidden hLe
  clear hLe HS1
  have q1 : ((m : Int) != (m : Int)) = false := by simp
  rcases (show c = p + 1 + L ∨ p + 1 + L < c by omega) with hcc | hcc
  · obtain rfl : m = 0 := by omega
    obtain rfl : N = p + 1 + L := by omega
    subst hcc
    have hys : ys = [] := List.eq_nil_of_length_eq_zero H1.out.len
    have PZ := hidden (src_empty (w := w) ⟨g, 0, none⟩ hys)
    clear hys HS2
    obtain rfl : L = 1 := by rw [← LU.out]; exact uvLen_one (by omega)
    clear hz
    go_wp2_with fail
    refine (equal_any (some ⟨g, 0, none⟩) 0 0 ys a1 0 c1 ys w PZ.out H1.out (by omega) (by omega)).mono ?_
    rintro e w2 ⟨rfl, q, rfl⟩
    go_wp2
    go_ret2
    refine ⟨?_, q, rfl⟩
    rw [LU.out]; exact congrArg (fun k : Int => Ending.returned (.tuple #[.int .i64 k, .bool true])) (by omega)
  · have PZ : Hid (Src w (some ⟨g, p + 1 + L, none⟩) m (c - (p + 1 + L)) ys) := by
      have := HS2.out.take (k := m) (by omega)
      rwa [take_len H1.out.len] at this
    clear HS2
    by_cases hL : 1 < L
    · obtain ⟨z, hz0, gz⟩ := hz hL
      have hzb : (z == 0) = false := by simpa using hz0
      clear hz hz0
      go_wp2_with fail
      refine (equal_any (some ⟨g, p + 1 + L, none⟩) m (c - (p + 1 + L)) ys a1 m c1 ys w PZ.out H1.out (by omega) (by omega)).mono ?_
      rintro e w2 ⟨rfl, q, rfl⟩
      go_wp2
      go_ret2
      refine ⟨?_, q, rfl⟩
      rw [LU.out]; exact congrArg (fun k : Int => Ending.returned (.tuple #[.int .i64 k, .bool true])) (by omega)
    · obtain rfl : L = 1 := by omega
      clear hz
      go_wp2_with fail
      refine (equal_any (some ⟨g, p + 1 + 1, none⟩) m (c - (p + 1 + 1)) ys a1 m c1 ys w PZ.out H1.out (by omega) (by omega)).mono ?_
      rintro e w2 ⟨rfl, q, rfl⟩
      go_wp2
      go_ret2
      refine ⟨?_, q, rfl⟩
      rw [LU.out]; exact congrArg (fun k : Int => Ending.returned (.tuple #[.int .i64 k, .bool true])) (by omega)

end Go.Proofs.Qxb6614553a
