/-
  zzb1Decode by its contract: it returns two counts, the second no more than the first, the first no more than the bytes; and a bool. It turns nothing.
-/
import Derived.Test.Qxb6614769aSizes
namespace Go.Proofs.Qxb6614769a
open Go.RowKit

def Decoded (n : Nat) (e : Ending) : Prop := ∃ (c d : Nat) (b : Bool), e = .returned (.tuple #[.int .i64 c, .int .i64 d, .bool b]) ∧ c ≤ n ∧ d ≤ c
theorem decoded_no {n : Nat} : Decoded n (.returned (.tuple #[.int .i64 0, .int .i64 0, .bool false])) := ⟨0, 0, false, rfl, Nat.zero_le _, Nat.le_refl _⟩
theorem decoded_yes {n c d : Nat} (h : c ≤ n) (k : d ≤ c) : Decoded n (.returned (.tuple #[.int .i64 c, .int .i64 d, .bool true])) := ⟨c, d, true, rfl, h, k⟩

set_option maxRecDepth 100000 in
set_option maxHeartbeats 16000000 in
theorem decode_any (a : Option Addr) (n c : Nat) (Z : Nat → Int) (w : World) (h : VRow w a n c (fun j => .int .u8 (Z j))) (hz : ∀ j, j < n → 0 ≤ Z j ∧ Z j ≤ 255) (hn : n ≤ 1048576) :
    Calls Try.prog 16 #[.slice a n c] w fun e w' => Decoded n e ∧ w = w' := by
  have H := hidden' h
  have HZ := hidden' hz
  clear h hz
  go_enter Try.func16, Try.ntmps16
  go_wp2
  go_loop [2, 3, 5] (fun u v i => ∃ (k p q : Nat), k ≤ n ∧ p ≤ k ∧ q ≤ p ∧ u = .int .i64 p ∧ v = .int .i64 q ∧ i = .int .i64 k) (fun _ _ i => n - (intOf i).toNat)
  case atStart => exact ⟨0, 0, 0, Nat.zero_le _, Nat.le_refl _, Nat.le_refl _, rfl, rfl, rfl⟩
  case round =>
    obtain ⟨k, p, q, hk, hp, hq, rfl, rfl, rfl⟩ := hrel
    by_cases hlt : k < n
    · obtain ⟨b, off, rfl, _, hc⟩ := H.out.at hlt
      have g0 := hc k hlt
      have z0 := HZ.out k hlt
      have HCC := hidden' hc
      clear hc
      generalize Z k = x at g0 z0
      obtain ⟨z1, z2⟩ := z0
      by_cases c1 : x < 128
      · go_wp2
        go_round
        case rel => exact ⟨k + 1, p + 1, q, by omega, by omega, by omega, by go_num, rfl, by go_num⟩
        case measure => simp [intOf]; omega
      · rcases (show (194 ≤ x ∧ x ≤ 223) ∨ (224 ≤ x ∧ x ≤ 239) ∨ (240 ≤ x ∧ x ≤ 244) ∨ (x < 194 ∨ 244 < x) by omega) with ⟨c2a, c2b⟩ | ⟨c2a, c2b⟩ | ⟨c2a, c2b⟩ | hbad
        · by_cases c3 : 2 ≤ n - k
          · have c3' : ¬ ((n : Int) - (k : Int) < 2) := by omega
            go_wp2
            go_loop [2, 3, 8, 10] (fun u v r j => ∃ (ρ : Int) (jn : Nat), 1 ≤ jn ∧ jn ≤ 2 ∧ u = .int .i64 p ∧ v = .int .i64 q ∧ r = .int .i64 ρ ∧ j = .int .i64 jn) (fun _ _ _ j => 2 - (intOf j).toNat)
            case atStart => exact ⟨_, 1, Nat.le_refl _, by decide, rfl, rfl, rfl, rfl⟩
            case round =>
              obtain ⟨ρ, jn, j1, j2, rfl, rfl, rfl, rfl⟩ := hrel
              by_cases hj : jn < 2
              · have g1 := HCC.out (k + jn) (by omega)
                have zz := HZ.out (k + jn) (by omega)
                have hkj : (k : Int) + (jn : Int) < (n : Int) := by omega
                generalize Z (k + jn) = y at g1 zz
                obtain ⟨zy1, zy2⟩ := zz
                go_wp2
                all_goals first
                  | (go_ret3; exact ⟨decoded_no, rfl⟩)
                  | (go_round
                     case rel => exact ⟨_, jn + 1, by omega, by omega, rfl, rfl, rfl, by go_num⟩
                     case measure => simp [intOf]; omega)
              · obtain rfl : jn = 2 := by omega
                by_cases d1 : ρ < 128
                · go_wp2
                  go_ret3
                  exact ⟨decoded_no, rfl⟩
                · by_cases d2 : 1114111 < ρ
                  · go_wp2
                    go_ret3
                    exact ⟨decoded_no, rfl⟩
                  · by_cases d3 : 55296 ≤ ρ
                    · by_cases d4 : ρ ≤ 57343
                      · go_wp2
                        go_ret3
                        exact ⟨decoded_no, rfl⟩
                      · by_cases d5 : 65535 < ρ
                        · go_wp2
                          go_round
                          case rel => exact ⟨k + 2, p + 1, q + 1, by omega, by omega, by omega, by go_num, by go_num, by go_num⟩
                          case measure => simp [intOf]; omega
                        · go_wp2
                          go_round
                          case rel => exact ⟨k + 2, p + 1, q, by omega, by omega, by omega, by go_num, rfl, by go_num⟩
                          case measure => simp [intOf]; omega
                    · have d5 : ¬ 65535 < ρ := by omega
                      go_wp2
                      go_round
                      case rel => exact ⟨k + 2, p + 1, q, by omega, by omega, by omega, by go_num, rfl, by go_num⟩
                      case measure => simp [intOf]; omega
          · have c3' : (n : Int) - (k : Int) < 2 := by omega
            go_wp2
            go_ret3
            exact ⟨decoded_no, rfl⟩
        · by_cases c3 : 3 ≤ n - k
          · have c3' : ¬ ((n : Int) - (k : Int) < 3) := by omega
            go_wp2
            go_loop [2, 3, 8, 10] (fun u v r j => ∃ (ρ : Int) (jn : Nat), 1 ≤ jn ∧ jn ≤ 3 ∧ u = .int .i64 p ∧ v = .int .i64 q ∧ r = .int .i64 ρ ∧ j = .int .i64 jn) (fun _ _ _ j => 3 - (intOf j).toNat)
            case atStart => exact ⟨_, 1, Nat.le_refl _, by decide, rfl, rfl, rfl, rfl⟩
            case round =>
              obtain ⟨ρ, jn, j1, j2, rfl, rfl, rfl, rfl⟩ := hrel
              by_cases hj : jn < 3
              · have g1 := HCC.out (k + jn) (by omega)
                have zz := HZ.out (k + jn) (by omega)
                have hkj : (k : Int) + (jn : Int) < (n : Int) := by omega
                generalize Z (k + jn) = y at g1 zz
                obtain ⟨zy1, zy2⟩ := zz
                go_wp2
                all_goals first
                  | (go_ret3; exact ⟨decoded_no, rfl⟩)
                  | (go_round
                     case rel => exact ⟨_, jn + 1, by omega, by omega, rfl, rfl, rfl, by go_num⟩
                     case measure => simp [intOf]; omega)
              · obtain rfl : jn = 3 := by omega
                by_cases d1 : ρ < 2048
                · go_wp2
                  go_ret3
                  exact ⟨decoded_no, rfl⟩
                · by_cases d2 : 1114111 < ρ
                  · go_wp2
                    go_ret3
                    exact ⟨decoded_no, rfl⟩
                  · by_cases d3 : 55296 ≤ ρ
                    · by_cases d4 : ρ ≤ 57343
                      · go_wp2
                        go_ret3
                        exact ⟨decoded_no, rfl⟩
                      · by_cases d5 : 65535 < ρ
                        · go_wp2
                          go_round
                          case rel => exact ⟨k + 3, p + 1, q + 1, by omega, by omega, by omega, by go_num, by go_num, by go_num⟩
                          case measure => simp [intOf]; omega
                        · go_wp2
                          go_round
                          case rel => exact ⟨k + 3, p + 1, q, by omega, by omega, by omega, by go_num, rfl, by go_num⟩
                          case measure => simp [intOf]; omega
                    · have d5 : ¬ 65535 < ρ := by omega
                      go_wp2
                      go_round
                      case rel => exact ⟨k + 3, p + 1, q, by omega, by omega, by omega, by go_num, rfl, by go_num⟩
                      case measure => simp [intOf]; omega
          · have c3' : (n : Int) - (k : Int) < 3 := by omega
            go_wp2
            go_ret3
            exact ⟨decoded_no, rfl⟩
        · by_cases c3 : 4 ≤ n - k
          · have c3' : ¬ ((n : Int) - (k : Int) < 4) := by omega
            go_wp2
            go_loop [2, 3, 8, 10] (fun u v r j => ∃ (ρ : Int) (jn : Nat), 1 ≤ jn ∧ jn ≤ 4 ∧ u = .int .i64 p ∧ v = .int .i64 q ∧ r = .int .i64 ρ ∧ j = .int .i64 jn) (fun _ _ _ j => 4 - (intOf j).toNat)
            case atStart => exact ⟨_, 1, Nat.le_refl _, by decide, rfl, rfl, rfl, rfl⟩
            case round =>
              obtain ⟨ρ, jn, j1, j2, rfl, rfl, rfl, rfl⟩ := hrel
              by_cases hj : jn < 4
              · have g1 := HCC.out (k + jn) (by omega)
                have zz := HZ.out (k + jn) (by omega)
                have hkj : (k : Int) + (jn : Int) < (n : Int) := by omega
                generalize Z (k + jn) = y at g1 zz
                obtain ⟨zy1, zy2⟩ := zz
                go_wp2
                all_goals first
                  | (go_ret3; exact ⟨decoded_no, rfl⟩)
                  | (go_round
                     case rel => exact ⟨_, jn + 1, by omega, by omega, rfl, rfl, rfl, by go_num⟩
                     case measure => simp [intOf]; omega)
              · obtain rfl : jn = 4 := by omega
                by_cases d1 : ρ < 65536
                · go_wp2
                  go_ret3
                  exact ⟨decoded_no, rfl⟩
                · by_cases d2 : 1114111 < ρ
                  · go_wp2
                    go_ret3
                    exact ⟨decoded_no, rfl⟩
                  · by_cases d3 : 55296 ≤ ρ
                    · by_cases d4 : ρ ≤ 57343
                      · go_wp2
                        go_ret3
                        exact ⟨decoded_no, rfl⟩
                      · by_cases d5 : 65535 < ρ
                        · go_wp2
                          go_round
                          case rel => exact ⟨k + 4, p + 1, q + 1, by omega, by omega, by omega, by go_num, by go_num, by go_num⟩
                          case measure => simp [intOf]; omega
                        · go_wp2
                          go_round
                          case rel => exact ⟨k + 4, p + 1, q, by omega, by omega, by omega, by go_num, rfl, by go_num⟩
                          case measure => simp [intOf]; omega
                    · have d5 : ¬ 65535 < ρ := by omega
                      go_wp2
                      go_round
                      case rel => exact ⟨k + 4, p + 1, q, by omega, by omega, by omega, by go_num, rfl, by go_num⟩
                      case measure => simp [intOf]; omega
          · have c3' : (n : Int) - (k : Int) < 4 := by omega
            go_wp2
            go_ret3
            exact ⟨decoded_no, rfl⟩
        · rcases hbad with hbad | hbad
          · go_wp2
            go_ret3
            exact ⟨decoded_no, rfl⟩
          · go_wp2
            go_ret3
            exact ⟨decoded_no, rfl⟩
    · go_wp2
      go_ret3
      exact ⟨decoded_yes (by omega) hq, rfl⟩

end Go.Proofs.Qxb6614769a
