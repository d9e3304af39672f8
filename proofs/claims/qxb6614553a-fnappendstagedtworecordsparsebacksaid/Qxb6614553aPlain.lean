/-
  THE PLAIN LAW: unsigned varints of fewer than 2^21; what a staged record's bytes are.
-/
import Derived.Laws.Bits64b
import Derived.WalkKit
namespace Go.Proofs.Qxb6614553a

/-- The varint of x, x < 2^21: one to three bytes. -/
def uv (x : Nat) : List Int :=
  if x < 128 then [(x : Int)] else if x < 16384 then [(x % 128 + 128 : Nat), (x / 128 : Nat)] else [(x % 128 + 128 : Nat), (x / 128 % 128 + 128 : Nat), (x / 16384 : Nat)]

def uvLen (x : Nat) : Nat := if x < 128 then 1 else if x < 16384 then 2 else 3

theorem uv_length (x : Nat) : (uv x).length = uvLen x := by
  unfold uv uvLen; split
  · rfl
  · split <;> rfl
theorem uvLen_bd (x : Nat) : 1 ≤ uvLen x ∧ uvLen x ≤ 3 := by
  unfold uvLen; split
  · omega
  · split <;> omega
theorem uv_byte (x : Nat) (hx : x < 2097152) : ∀ y ∈ uv x, 0 ≤ y ∧ y ≤ 255 := by
  intro y hy
  unfold uv at hy
  split at hy
  · simp at hy; omega
  · split at hy
    · simp at hy; omega
    · simp at hy; omega

theorem uvLen_two {x : Nat} (h : 128 ≤ x) : 2 ≤ uvLen x := by
  unfold uvLen; rw [if_neg (by omega)]; split <;> omega
theorem uvLen_one {x : Nat} (h : x < 128) : uvLen x = 1 := by simp [uvLen, h]

theorem uv_small {x : Nat} (h : x < 128) : uv x = [(x : Int)] := by simp [uv, h]
theorem uv_step {x : Nat} (h : 128 ≤ x) (hx : x < 2097152) : uv x = ((x % 128 + 128 : Nat) : Int) :: uv (x / 128) := by
  unfold uv
  rw [if_neg (by omega)]
  by_cases h2 : x < 16384
  · rw [if_pos h2, if_pos (by omega)]
  · rw [if_neg h2, if_neg (by omega), if_pos (by omega), show x / 128 / 128 = x / 16384 by omega]

theorem bits_or_u8_nat (a b : Nat) (ha : a < 256) (hb : b < 256) : bits .or .u8 (a : Int) (b : Int) = ((a ||| b : Nat) : Int) := by
  have hx : a ||| b < 2 ^ 8 := Nat.or_lt_two_pow (by omega) (by omega)
  have h1 : (BitVec.ofInt 8 (a : Int)).toNat = a := by
    rw [BitVec.ofInt_natCast, BitVec.toNat_ofNat]; exact Nat.mod_eq_of_lt (by omega)
  have h2 : (BitVec.ofInt 8 (b : Int)).toNat = b := by
    rw [BitVec.ofInt_natCast, BitVec.toNat_ofNat]; exact Nat.mod_eq_of_lt (by omega)
  show IntKind.u8.wrap ((BitVec.ofInt 8 (a : Int) ||| BitVec.ofInt 8 (b : Int)).toNat : Int) = _
  rw [BitVec.toNat_or, h1, h2, IntKind.wrap_u8]
  omega
theorem bits_and_u8_nat (a b : Nat) (ha : a < 256) (hb : b < 256) : bits .and .u8 (a : Int) (b : Int) = ((a &&& b : Nat) : Int) := by
  have hx : a &&& b < 2 ^ 8 := Nat.and_lt_two_pow a (by omega)
  have h1 : (BitVec.ofInt 8 (a : Int)).toNat = a := by
    rw [BitVec.ofInt_natCast, BitVec.toNat_ofNat]; exact Nat.mod_eq_of_lt (by omega)
  have h2 : (BitVec.ofInt 8 (b : Int)).toNat = b := by
    rw [BitVec.ofInt_natCast, BitVec.toNat_ofNat]; exact Nat.mod_eq_of_lt (by omega)
  show IntKind.u8.wrap ((BitVec.ofInt 8 (a : Int) &&& BitVec.ofInt 8 (b : Int)).toNat : Int) = _
  rw [BitVec.toNat_and, h1, h2, IntKind.wrap_u8]
  omega

/-- 'byte(x) | 0x80'. -/
theorem or_top (x : Nat) : bits .or .u8 ((x : Int) % 256) 128 = ((x % 128 + 128 : Nat) : Int) := by
  have h := bits_or_u8_nat (x % 256) 128 (Nat.mod_lt _ (by decide)) (by decide)
  have e : ((x : Int) % 256) = ((x % 256 : Nat) : Int) := by omega
  rw [e, show (128 : Int) = ((128 : Nat) : Int) from rfl, h]
  have h2 : x % 256 ||| 128 = x % 128 + 128 := by
    have key : ∀ y, y < 256 → y ||| 128 = y % 128 + 128 := by decide +kernel
    rw [key _ (Nat.mod_lt _ (by decide))]; omega
  rw [h2]

/-- 'c & 0x7f' of a byte that goes on. -/
theorem and_low (y : Nat) (h : y < 128) : bits .and .u8 ((y + 128 : Nat) : Int) 127 = (y : Int) := by
  have h2 := bits_and_u8_nat (y + 128) 127 (by omega) (by decide)
  rw [show (127 : Int) = ((127 : Nat) : Int) from rfl, h2]
  have key : ∀ z, z < 128 → (z + 128) &&& 127 = z := by decide +kernel
  rw [key y h]

/-- What is staged for a record of shard i: the shard's low byte, the record's length, the record. -/
def staged (i : Int) (ys : List Int) : List Int := i % 256 :: (uv ys.length ++ ys)

theorem staged_length (i : Int) (ys : List Int) : (staged i ys).length = 1 + uvLen ys.length + ys.length := by
  simp [staged, uv_length]; omega
theorem staged_byte (i : Int) (ys : List Int) (hl : ys.length < 2097152) (hy : ∀ y ∈ ys, 0 ≤ y ∧ y ≤ 255) : ∀ y ∈ staged i ys, 0 ≤ y ∧ y ≤ 255 := by
  intro y h
  simp only [staged, List.mem_cons, List.mem_append] at h
  rcases h with h | h | h
  · subst h; omega
  · exact uv_byte _ hl y h
  · exact hy y h
theorem staged_low (i : Int) (ys : List Int) : staged (i % 256) ys = staged i ys := by
  unfold staged; rw [Int.emod_emod_of_dvd _ (Int.dvd_refl _)]

end Go.Proofs.Qxb6614553a
