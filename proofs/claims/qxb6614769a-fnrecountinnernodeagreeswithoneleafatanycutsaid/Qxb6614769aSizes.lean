/-
  zzBytes_.., zzb1SizeOK, zzb1Decode by their contracts.
-/
import Derived.Test.Qxb6614769aBlocks
namespace Go.Proofs.Qxb6614769a
open Go.RowKit

theorem below_succ {p : Nat → Prop} {k : Nat} (h : ∀ j, j < k → p j) (hk : p k) : ∀ j, j < k + 1 → p j := by
  intro j hj
  rcases Nat.lt_or_ge j k with h' | h'
  · exact h j h'
  · have : j = k := by omega
    subst this; exact hk

/-- It returns a bool; where that is true, P holds. -/
def Says (P : Prop) (e : Ending) : Prop := ∃ b, e = .returned (.bool b) ∧ (b = true → P)
theorem says_no {P : Prop} : Says P (.returned (.bool false)) := ⟨false, rfl, fun h => by cases h⟩
theorem says_yes {P : Prop} (h : P) : Says P (.returned (.bool true)) := ⟨true, rfl, fun _ => h⟩

set_option maxHeartbeats 1600000 in
theorem zz4_any (at' : Option Addr) (nt ct : Nat) (A : Nat → Option Addr) (L C : Nat → Nat) (an : Option Addr) (nn cn : Nat) (aw : Option Addr) (nw cw : Nat) (cut : Int) (w : World)
    (ht : VRow w at' nt ct (fun i => .slice (A i) (L i) (C i))) :
    Calls Try.prog 4 #[.slice at' nt ct, .slice an nn cn, .slice aw nw cw, .int .i64 cut] w fun e w' => Says (∀ i, i < nt → L i ≤ 1048576) e ∧ w = w' := by
  have HT := hidden' ht
  clear ht
  by_cases h1 : nt ≤ 1048576
  · go_enter Try.func4, Try.ntmps4
    go_wp2
    go_loop [9, 10] (fun z i => ∃ (k zn : Nat), k ≤ nt ∧ zn ≤ 1048576 ∧ z = .int .i64 zn ∧ i = .int .i64 k ∧ Hid (∀ j, j < k → L j ≤ 1048576)) (fun _ i => nt - (intOf i).toNat)
    case atStart => exact ⟨0, nt, Nat.zero_le _, h1, rfl, rfl, fun j hj => absurd hj (Nat.not_lt_zero _)⟩
    case round =>
      obtain ⟨k, zn, hk, hz, rfl, rfl, HA⟩ := hrel
      by_cases hlt : k < nt
      · obtain ⟨b, off, rfl, _, hc⟩ := HT.out.at hlt
        have g0 := hc k hlt
        clear hc
        by_cases h2 : L k ≤ 1048576
        · by_cases h3 : zn + L k ≤ 1048576
          · go_wp2
            go_round
            case rel => exact ⟨k + 1, zn + L k, by omega, h3, by go_num, by go_num, below_succ HA.out h2⟩
            case measure => simp [intOf]; omega
          · go_wp2
            go_ret
            exact ⟨says_no, rfl⟩
        · go_wp2
          go_ret
          exact ⟨says_no, rfl⟩
      · obtain rfl : k = nt := by omega
        by_cases h4 : nn ≤ 1048576
        · by_cases h5 : zn + nn ≤ 1048576
          · by_cases h6 : nw ≤ 1048576
            · by_cases h7 : zn + nn + nw ≤ 1048576
              · go_wp2
                go_ret
                exact ⟨says_yes HA.out, rfl⟩
              · go_wp2
                go_ret
                exact ⟨says_no, rfl⟩
            · go_wp2
              go_ret
              exact ⟨says_no, rfl⟩
          · go_wp2
            go_ret
            exact ⟨says_no, rfl⟩
        · go_wp2
          go_ret
          exact ⟨says_no, rfl⟩
  · go_enter Try.func4, Try.ntmps4
    go_wp2
    go_ret
    exact ⟨says_no, rfl⟩

theorem sm_nat (L : Nat → Nat) (a k : Nat) : 0 ≤ sm (fun i => (L i : Int)) a k := by
  induction k with
  | zero => simp [sm]
  | succ k ih => simp only [sm]; omega

set_option maxHeartbeats 1600000 in
theorem size_any (at' : Option Addr) (nt ct : Nat) (A : Nat → Option Addr) (L C : Nat → Nat) (an : Option Addr) (nn cn : Nat) (aw : Option Addr) (nw cw : Nat) (w : World)
    (ht : VRow w at' nt ct (fun i => .slice (A i) (L i) (C i))) (hL : ∀ i, i < nt → L i ≤ 1048576) :
    Calls Try.prog 5 #[.slice at' nt ct, .slice an nn cn, .slice aw nw cw] w fun e w' => Says (nt ≤ 65536 ∧ sm (fun i => (L i : Int)) 0 nt ≤ 1048576) e ∧ w = w' := by
  have HT := hidden' ht
  have HL := hidden' hL
  clear ht hL
  by_cases h1 : nt ≤ 65536
  · by_cases h2 : nn ≤ 65536
    · by_cases h3 : nw ≤ 65536
      · by_cases h4 : 8 * nt + 4 * nn + 4 * nw ≤ 1048576
        · go_enter Try.func5, Try.ntmps5
          go_wp2
          go_loop [7, 8] (fun z i => ∃ (k : Nat) (s : Int), k ≤ nt ∧ 0 ≤ s ∧ s ≤ 1048576 ∧ z = .int .i64 s ∧ i = .int .i64 k ∧ Hid (sm (fun i => (L i : Int)) 0 k ≤ s)) (fun _ i => nt - (intOf i).toNat)
          case atStart => exact ⟨0, _, Nat.zero_le _, by omega, by omega, rfl, rfl, by show _ ≤ _; simp only [sm]; omega⟩
          case round =>
            obtain ⟨k, s, hk, hs0, hs, rfl, rfl, HA⟩ := hrel
            by_cases hlt : k < nt
            · obtain ⟨b, off, rfl, _, hc⟩ := HT.out.at hlt
              have g0 := hc k hlt
              have l0 := HL.out k hlt
              clear hc
              by_cases h5 : s + (L k : Int) ≤ 1048576
              · go_wp2
                go_round
                case rel => exact ⟨k + 1, s + (L k : Int), by omega, by omega, h5, by go_num, by go_num, by show _ ≤ _; have := HA.out; simp only [sm]; simp; omega⟩
                case measure => simp [intOf]; omega
              · go_wp2
                go_ret
                exact ⟨says_no, rfl⟩
            · obtain rfl : k = nt := by omega
              go_wp2
              go_ret
              exact ⟨says_yes (by have := HA.out; first | exact ⟨h1, by omega⟩ | omega), rfl⟩
        · omega
      · have h3' : 65536 < nw := by omega
        go_enter Try.func5, Try.ntmps5
        go_wp2
        go_ret
        exact ⟨says_no, rfl⟩
    · have h2' : 65536 < nn := by omega
      go_enter Try.func5, Try.ntmps5
      go_wp2
      go_ret
      exact ⟨says_no, rfl⟩
  · have h1' : 65536 < nt := by omega
    go_enter Try.func5, Try.ntmps5
    go_wp2
    go_ret
    exact ⟨says_no, rfl⟩

end Go.Proofs.Qxb6614769a
