/-
  THE WALKS: each function of the key state by its contract; the two laws out of them.
-/
import Derived.Test.Qxb6615975aRows
import Derived.Test.Qxb6615975aPlain
import Derived.WalkKit
import Derived.WalkSpells
import Derived.Below
namespace Go.Proofs.Qxb6615975a
open Go.RowKit

theorem ret_num {k : IntKind} {a b : Int} (h : a = b) : Ending.returned (.int k a) = .returned (.int k b) := by rw [h]
theorem ret_bool {a b : Bool} (h : a = b) : Ending.returned (.bool a) = .returned (.bool b) := by rw [h]

set_option maxHeartbeats 400000 in
theorem held_any (s a : Int) (w : World) (h0 : 0 ≤ s) (h1 : s ≤ 18446744073709551615) (ha : 0 ≤ a) (ha1 : a ≤ 1) :
    Calls Try.prog 7 #[.int .u64 s, .int .u8 a] w fun e w' => e = .returned (.int .u64 (heldOf s a)) ∧ w = w' := by
  have H : Hid (_ = heldOf s a) := held_word s a h0 h1 ha ha1
  go_enter Try.func7, Try.ntmps7
  go_wp2
  go_ret
  exact ⟨ret_num H.out, rfl⟩

set_option maxHeartbeats 400000 in
theorem stage_any (s : Int) (w : World) (h0 : 0 ≤ s) (h1 : s ≤ 18446744073709551615) :
    Calls Try.prog 8 #[.int .u64 s] w fun e w' => e = .returned (.int .u8 (stageOf s)) ∧ w = w' := by
  go_enter Try.func8, Try.ntmps8
  go_wp2
  go_ret
  exact ⟨rfl, rfl⟩

theorem lane_word (s : Int) (h0 : 0 ≤ s) (h1 : s ≤ 18446744073709551615) : bits .and .u64 (s / 2305843009213693952) 1 % 256 = laneOf s := by
  rw [and_one _ (by omega) (by omega)]; unfold laneOf; omega
theorem again_word (s : Int) (h0 : 0 ≤ s) (h1 : s ≤ 18446744073709551615) : bits .and .u64 (s / 1152921504606846976) 1 % 256 = againOf s := by
  rw [and_one _ (by omega) (by omega)]; unfold againOf; omega

set_option maxHeartbeats 400000 in
theorem lane_any (s : Int) (w : World) (h0 : 0 ≤ s) (h1 : s ≤ 18446744073709551615) :
    Calls Try.prog 9 #[.int .u64 s] w fun e w' => e = .returned (.int .u8 (laneOf s)) ∧ w = w' := by
  have H : Hid (_ = laneOf s) := lane_word s h0 h1
  go_enter Try.func9, Try.ntmps9
  go_wp2
  go_ret
  exact ⟨ret_num H.out, rfl⟩

set_option maxHeartbeats 400000 in
theorem again_any (s : Int) (w : World) (h0 : 0 ≤ s) (h1 : s ≤ 18446744073709551615) :
    Calls Try.prog 10 #[.int .u64 s] w fun e w' => e = .returned (.int .u8 (againOf s)) ∧ w = w' := by
  have H : Hid (_ = againOf s) := again_word s h0 h1
  go_enter Try.func10, Try.ntmps10
  go_wp2
  go_ret
  exact ⟨ret_num H.out, rfl⟩

set_option maxHeartbeats 400000 in
theorem place_any (s : Int) (w : World) (h0 : 0 ≤ s) (h1 : s ≤ 18446744073709551615) :
    Calls Try.prog 11 #[.int .u64 s] w fun e w' => e = .returned (.int .u64 (placeOf s)) ∧ w = w' := by
  have H : Hid (_ = placeOf s) := and_place s h0 (by omega)
  go_enter Try.func11, Try.ntmps11
  go_wp2
  go_ret
  exact ⟨ret_num H.out, rfl⟩

theorem back_no (s a : Int) (w : World) (h : 1 < a) :
    Calls Try.prog 3 #[.int .u64 s, .int .u8 a] w fun e w' => e = .returned (.bool true) ∧ w = w' := by
  go_enter Try.func3, Try.ntmps3
  go_wp2
  go_ret
  exact ⟨rfl, rfl⟩

theorem wins_no (s a : Int) (w : World) (h : 1 < a) :
    Calls Try.prog 4 #[.int .u64 s, .int .u8 a] w fun e w' => e = .returned (.bool true) ∧ w = w' := by
  go_enter Try.func4, Try.ntmps4
  go_wp2
  go_ret
  exact ⟨rfl, rfl⟩

set_option maxHeartbeats 800000 in
theorem back_yes (s a : Int) (w : World) (h0 : 0 ≤ s) (h1 : s ≤ 18446744073709551615) (ha : 0 ≤ a) (ha1 : a ≤ 1) :
    Calls Try.prog 3 #[.int .u64 s, .int .u8 a] w fun e w' => e = .returned (.bool true) ∧ w = w' := by
  have R := held_range s a ha ha1
  have E1 : Hid (stageOf (heldOf s a) = 2) := stage_held s a ha ha1
  have E2 : Hid (laneOf (heldOf s a) = laneOf s) := lane_held s a ha ha1
  have E3 : Hid (againOf (heldOf s a) = a) := again_held s a ha ha1
  have E4 : Hid (placeOf (heldOf s a) = placeOf s) := place_held s a
  go_enter Try.func3, Try.ntmps3
  go_wp2_with fail
  refine (held_any s a _ h0 h1 ha ha1).mono ?_
  rintro e w1 ⟨rfl, rfl⟩
  generalize heldOf s a = t at *
  go_wp2_with fail
  refine (stage_any t _ R.1 R.2).mono ?_
  rintro e w1 ⟨rfl, rfl⟩
  rw [E1.out]
  go_wp2_with fail
  refine (lane_any t _ R.1 R.2).mono ?_
  rintro e w1 ⟨rfl, rfl⟩
  rw [E2.out]
  go_wp2_with fail
  refine (lane_any s _ h0 h1).mono ?_
  rintro e w1 ⟨rfl, rfl⟩
  go_wp2_with fail
  refine (again_any t _ R.1 R.2).mono ?_
  rintro e w1 ⟨rfl, rfl⟩
  rw [E3.out]
  go_wp2_with fail
  refine (place_any t _ R.1 R.2).mono ?_
  rintro e w1 ⟨rfl, rfl⟩
  rw [E4.out]
  go_wp2_with fail
  refine (place_any s _ h0 h1).mono ?_
  rintro e w1 ⟨rfl, rfl⟩
  go_wp2
  go_ret
  exact ⟨rfl, rfl⟩

set_option maxHeartbeats 800000 in
theorem wins_yes (s a : Int) (w : World) (h0 : 0 ≤ s) (h1 : s ≤ 18446744073709551615) (ha : 0 ≤ a) (ha1 : a ≤ 1) :
    Calls Try.prog 4 #[.int .u64 s, .int .u8 a] w fun e w' => e = .returned (.bool true) ∧ w = w' := by
  have R0 := held_range s 0 (by omega) (by omega)
  have R1 := held_range s 1 (by omega) (by omega)
  have RZ := held_zero_range s
  have E1 : Hid (heldOf s 1 = heldOf s 0 + 1152921504606846976) := held_one s
  have E2 : Hid (heldOf (heldOf s 0) a = heldOf s a) := held_held s 0 a (by omega) (by omega)
  have E3 : Hid (heldOf (heldOf s 1) a = heldOf s a) := held_held s 1 a (by omega) (by omega)
  go_enter Try.func4, Try.ntmps4
  go_wp2_with fail
  refine (held_any s 0 _ h0 h1 (by omega) (by omega)).mono ?_
  rintro e w1 ⟨rfl, rfl⟩
  go_wp2_with fail
  refine (held_any s 1 _ h0 h1 (by omega) (by omega)).mono ?_
  rintro e w1 ⟨rfl, rfl⟩
  generalize heldOf s 0 = lo at *
  generalize heldOf s 1 = hi at *
  go_wp2_with fail
  refine (held_any s a _ h0 h1 ha ha1).mono ?_
  rintro e w1 ⟨rfl, rfl⟩
  have E4 : (hi == lo + 1152921504606846976) = true := by rw [E1.out]; simp
  go_wp2_with fail
  refine (held_any lo a _ R0.1 R0.2 ha ha1).mono ?_
  rintro e w1 ⟨rfl, rfl⟩
  rw [E2.out]
  go_wp2_with fail
  refine (held_any hi a _ R1.1 R1.2 ha ha1).mono ?_
  rintro e w1 ⟨rfl, rfl⟩
  rw [E3.out]
  go_wp2
  go_ret
  exact ⟨rfl, rfl⟩

theorem bd64 {s : Int} (h : (Lit.int .u64 s).wf = true) : 0 ≤ s ∧ s ≤ 18446744073709551615 := by
  simp [Lit.wf, IntKind.min, IntKind.max, IntKind.signed, IntKind.bits] at h; omega
theorem bd8 {s : Int} (h : (Lit.int .u8 s).wf = true) : 0 ≤ s ∧ s ≤ 255 := by
  simp [Lit.wf, IntKind.min, IntKind.max, IntKind.signed, IntKind.bits] at h; omega

theorem back_all (s a : Int) (w : World) (hs : (Lit.int .u64 s).wf = true) (ha : (Lit.int .u8 a).wf = true) :
    Calls Try.prog 3 #[.int .u64 s, .int .u8 a] w fun e w' => e = .returned (.bool true) ∧ w = w' := by
  by_cases h : a ≤ 1
  · exact back_yes s a w (bd64 hs).1 (bd64 hs).2 (bd8 ha).1 h
  · exact back_no s a w (by omega)

theorem wins_all (s a : Int) (w : World) (hs : (Lit.int .u64 s).wf = true) (ha : (Lit.int .u8 a).wf = true) :
    Calls Try.prog 4 #[.int .u64 s, .int .u8 a] w fun e w' => e = .returned (.bool true) ∧ w = w' := by
  by_cases h : a ≤ 1
  · exact wins_yes s a w (bd64 hs).1 (bd64 hs).2 (bd8 ha).1 h
  · exact wins_no s a w (by omega)

end Go.Proofs.Qxb6615975a
