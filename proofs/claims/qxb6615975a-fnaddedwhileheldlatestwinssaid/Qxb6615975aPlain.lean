/-
  THE PLAIN LAW OF A KEY STATE's WORD: what addedWhileHeld, lane, again, place, stage come to, in plain arithmetic. No Go in sight but the model's own 'bits'.
-/
import Derived.Laws.Bits64b
import Derived.WalkKit
namespace Go.Proofs.Qxb6615975a

def laneOf (s : Int) : Int := s / 2305843009213693952 % 2
def placeOf (s : Int) : Int := s % 1152921504606846976
def againOf (s : Int) : Int := s / 1152921504606846976 % 2
def stageOf (s : Int) : Int := s / 4611686018427387904
/-- The word behind an add while held. -/
def heldOf (s a : Int) : Int := 9223372036854775808 + laneOf s * 2305843009213693952 + a * 1152921504606846976 + placeOf s

theorem and_one (x : Int) (h0 : 0 ≤ x) (h1 : x < 18446744073709551616) : bits .and .u64 x 1 = x % 2 := by
  obtain ⟨n, rfl⟩ := Int.eq_ofNat_of_zero_le h0
  have := bits_and_u64_nat n 1 (by omega) (by decide)
  rw [show ((1 : Nat) : Int) = 1 from rfl] at this
  rw [this, Nat.and_one_is_mod]
  omega

theorem and_place (x : Int) (h0 : 0 ≤ x) (h1 : x < 18446744073709551616) : bits .and .u64 x 1152921504606846975 = placeOf x := by
  obtain ⟨n, rfl⟩ := Int.eq_ofNat_of_zero_le h0
  have := bits_and_u64_nat n 1152921504606846975 (by omega) (by decide)
  rw [show ((1152921504606846975 : Nat) : Int) = 1152921504606846975 from rfl] at this
  rw [this, show (1152921504606846975 : Nat) = 2 ^ 60 - 1 from rfl, Nat.and_two_pow_sub_one_eq_mod]
  unfold placeOf
  omega

theorem or_word (l p a : Nat) (hl : l ≤ 1) (hp : p < 1152921504606846976) (ha : a ≤ 1) :
    ((9223372036854775808 ||| l * 2305843009213693952) ||| p) ||| a * 1152921504606846976 = 9223372036854775808 + l * 2305843009213693952 + a * 1152921504606846976 + p := by
  have e1 : (9223372036854775808 : Nat) ||| l * 2305843009213693952 = 2 ^ 61 * (4 + l) := by
    have := Nat.two_pow_add_eq_or_of_lt (i := 63) (b := l * 2305843009213693952) (by omega) 1
    rw [show (9223372036854775808 : Nat) = 2 ^ 63 * 1 from rfl, ← this]
    omega
  have e2 : p ||| a * 1152921504606846976 = a * 1152921504606846976 + p := by
    have := Nat.two_pow_add_eq_or_of_lt (i := 60) (b := p) (by omega) a
    rw [Nat.or_comm, Nat.mul_comm a, show (1152921504606846976 : Nat) = 2 ^ 60 from rfl, ← this]
  have e3 := Nat.two_pow_add_eq_or_of_lt (i := 61) (b := a * 1152921504606846976 + p) (by omega) (4 + l)
  rw [Nat.or_assoc, e1, e2, ← e3]
  omega

theorem or_u64 (a b : Nat) (ha : a < 18446744073709551616) (hb : b < 18446744073709551616) : bits .or .u64 (a : Int) (b : Int) = ((a ||| b : Nat) : Int) := bits_or_u64_nat a b ha hb

/-- The walk's own spelling of addedWhileHeld's word. -/
theorem held_word (s a : Int) (h0 : 0 ≤ s) (h1 : s ≤ 18446744073709551615) (ha : 0 ≤ a) (ha1 : a ≤ 1) :
    bits .or .u64 (bits .or .u64 (bits .or .u64 9223372036854775808 (IntKind.u64.wrap (bits .and .u64 (s / 2305843009213693952) 1 % 256 * 2305843009213693952))) (bits .and .u64 s 1152921504606846975)) (a * 1152921504606846976) = heldOf s a := by
  rw [and_one _ (by omega) (by omega), and_place s h0 (by omega), IntKind.wrap_u64]
  obtain ⟨n, rfl⟩ := Int.eq_ofNat_of_zero_le h0
  obtain ⟨k, rfl⟩ := Int.eq_ofNat_of_zero_le ha
  have f1 : ((n : Int) / 2305843009213693952 % 2 % 256 * 2305843009213693952 % 18446744073709551616) = ((n / 2305843009213693952 % 2 * 2305843009213693952 : Nat) : Int) := by omega
  have f2 : placeOf (n : Int) = ((n % 1152921504606846976 : Nat) : Int) := by unfold placeOf; omega
  have f3 : (k : Int) * 1152921504606846976 = ((k * 1152921504606846976 : Nat) : Int) := by omega
  have hl : n / 2305843009213693952 % 2 ≤ 1 := by omega
  have hp : n % 1152921504606846976 < 1152921504606846976 := Nat.mod_lt _ (by decide)
  have W := or_word (n / 2305843009213693952 % 2) (n % 1152921504606846976) k hl hp (by omega)
  have b1 : (9223372036854775808 : Nat) ||| (n / 2305843009213693952 % 2 * 2305843009213693952) < 2 ^ 64 := Nat.or_lt_two_pow (by decide) (by omega)
  have b2 : ((9223372036854775808 : Nat) ||| (n / 2305843009213693952 % 2 * 2305843009213693952)) ||| (n % 1152921504606846976) < 2 ^ 64 := Nat.or_lt_two_pow b1 (by omega)
  have g1 := or_u64 9223372036854775808 (n / 2305843009213693952 % 2 * 2305843009213693952) (by decide) (by omega)
  have g2 := or_u64 _ (n % 1152921504606846976) (by simpa using b1) (by omega)
  have g3 := or_u64 _ (k * 1152921504606846976) (by simpa using b2) (by omega)
  rw [f1, f2, f3]
  have c1 : ((9223372036854775808 : Nat) : Int) = 9223372036854775808 := rfl
  rw [← c1, g1, g2, g3, W]
  unfold heldOf laneOf placeOf
  omega

theorem held_range (s a : Int) (ha : 0 ≤ a) (ha1 : a ≤ 1) : 0 ≤ heldOf s a ∧ heldOf s a ≤ 18446744073709551615 := by
  unfold heldOf laneOf placeOf; omega
theorem stage_held (s a : Int) (ha : 0 ≤ a) (ha1 : a ≤ 1) : stageOf (heldOf s a) = 2 := by
  unfold stageOf heldOf laneOf placeOf; omega
theorem lane_held (s a : Int) (ha : 0 ≤ a) (ha1 : a ≤ 1) : laneOf (heldOf s a) = laneOf s := by
  unfold heldOf laneOf placeOf; omega
theorem again_held (s a : Int) (ha : 0 ≤ a) (ha1 : a ≤ 1) : againOf (heldOf s a) = a := by
  unfold againOf heldOf laneOf placeOf; omega
theorem place_held (s a : Int) : placeOf (heldOf s a) = placeOf s := by
  unfold heldOf laneOf placeOf; omega
theorem held_held (s a b : Int) (ha : 0 ≤ a) (ha1 : a ≤ 1) : heldOf (heldOf s a) b = heldOf s b := by
  have h1 := lane_held s a ha ha1
  have h2 := place_held s a
  rw [heldOf, h1, h2]; rfl
theorem held_one (s : Int) : heldOf s 1 = heldOf s 0 + 1152921504606846976 := by
  unfold heldOf; omega
theorem held_zero_range (s : Int) : 0 ≤ heldOf s 0 ∧ heldOf s 0 + 1152921504606846976 ≤ 18446744073709551615 := by
  unfold heldOf laneOf placeOf; omega

end Go.Proofs.Qxb6615975a
