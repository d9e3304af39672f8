/-
  BYTES BEHIND A SLICE VALUE, told once for every walk of this seat; zzEqualBytes, zzIsJoin, zzCopyBytes by their contracts.
-/
import Derived.Test.Qxb6615840aRows
import Derived.WalkKit
import Derived.WalkSpells
import Derived.ProofKit
import Derived.OpenShut
import Derived.Below
import Derived.Deep.Draws
import Derived.Deep.QuietTactic
import Derived.BigQuiet
namespace Go.Proofs.Qxb6615840a
open Go.RowKit

/-- The slice value '.slice a n c' reads, in w, as the bytes xs. -/
structure Src (w : World) (a : Option Addr) (n c : Nat) (xs : List Int) : Prop where
  len : xs.length = n
  cap : n ≤ c
  nil : a = none → n = 0 ∧ c = 0
  byte : ∀ x ∈ xs, 0 ≤ x ∧ x ≤ 255
  cell : ∀ x, a = some x → ∀ i, i < n → w.cell? (x.add i) = some (.int .u8 (xs.getD i 0))

theorem Src.at {w : World} {a : Option Addr} {n c : Nat} {xs : List Int} (h : Src w a n c xs) {k : Nat} (hk : k < n) :
    ∃ b off, a = some ⟨b, off, none⟩ ∧ ∀ j, j < n → w.cell? ⟨b, off + j, none⟩ = some (.int .u8 (xs.getD j 0)) := by
  cases a with
  | none => have := h.nil rfl; omega
  | some x =>
    obtain ⟨b, off, rfl, hc⟩ := ints_at (w := w) (a := x) (k := .u8) (zs := xs) (fun i hi => h.cell x rfl i (by rw [← h.len]; exact hi)) (by rw [h.len]; omega)
    exact ⟨b, off, rfl, fun j hj => hc j (by rw [h.len]; exact hj)⟩

theorem getD_lt {xs : List Int} {k : Nat} (hk : k < xs.length) : xs.getD k 0 = xs[k] := by simp [hk]

theorem getD_byte {xs : List Int} (h : ∀ x ∈ xs, 0 ≤ x ∧ x ≤ 255) (k : Nat) : 0 ≤ xs.getD k 0 ∧ xs.getD k 0 ≤ 255 := by
  rcases Nat.lt_or_ge k xs.length with hk | hk
  · rw [getD_lt hk]; exact h _ (List.getElem_mem hk)
  · simp [hk]

theorem eq_of_getD {xs ys : List Int} (hl : xs.length = ys.length) (h : ∀ j, j < xs.length → xs.getD j 0 = ys.getD j 0) : xs = ys := by
  apply List.ext_getElem hl
  intro i h1 h2
  have := h i h1
  rwa [getD_lt h1, getD_lt h2] at this

theorem below_succ {p : Nat → Prop} {k : Nat} (h : ∀ j, j < k → p j) (hk : p k) : ∀ j, j < k + 1 → p j := by
  intro j hj
  rcases Nat.lt_or_ge j k with h' | h'
  · exact h j h'
  · have : j = k := by omega
    subst this; exact hk

theorem ret_bool {a b : Bool} (h : a = b) : Ending.returned (.bool a) = .returned (.bool b) := by rw [h]

set_option maxHeartbeats 800000 in
/-- zzEqualBytes: true just where the bytes are the same; it draws, and turns nothing. -/
theorem equal_any (a0 : Option Addr) (n0 c0 : Nat) (xs : List Int) (a1 : Option Addr) (n1 c1 : Nat) (ys : List Int) (w : World)
    (h0 : Src w a0 n0 c0 xs) (h1 : Src w a1 n1 c1 ys) (b0 : n0 ≤ 281474976710656) (b1 : n1 ≤ 281474976710656) :
    Calls Try.prog 22 #[.slice a0 n0 c0, .slice a1 n1 c1] w fun e w' => e = .returned (.bool (decide (xs = ys))) ∧ ∃ q, w' = w.drewN q := by
  have H0 : Hid (Src w a0 n0 c0 xs) := h0
  have H1 : Hid (Src w a1 n1 c1 ys) := h1
  clear h0 h1
  by_cases hn : n0 = n1
  · subst hn
    go_enter Try.func22, Try.ntmps22
    go_wp2
    go_loopw [5] (fun i wr => ∃ k q : Nat, k ≤ n0 ∧ i = .int .i64 k ∧ wr = w.drewN q ∧ Hid (∀ j, j < k → xs.getD j 0 = ys.getD j 0)) (fun i _ => n0 - (intOf i).toNat)
    case atStart => exact ⟨0, 0, Nat.zero_le _, rfl, rfl, fun j hj => absurd hj (Nat.not_lt_zero _)⟩
    case round =>
      obtain ⟨k, q, hk, rfl, rfl, HE⟩ := hrel
      by_cases hlt : k < n0
      · obtain ⟨b, off, rfl, hc0⟩ := H0.out.at hlt
        obtain ⟨b', off', rfl, hc1⟩ := H1.out.at hlt
        have g0 := hc0 k hlt
        have g1 := hc1 k hlt
        clear hc0 hc1
        obtain ⟨x, hx⟩ : ∃ x, x = xs.getD k 0 := ⟨_, rfl⟩
        obtain ⟨y, hy⟩ : ∃ y, y = ys.getD k 0 := ⟨_, rfl⟩
        rw [← hx] at g0
        rw [← hy] at g1
        have HX : Hid (x = xs.getD k 0) := hx
        have HY : Hid (y = ys.getD k 0) := hy
        clear hx hy
        by_cases hxy : x = y
        · subst hxy
          go_wp2
          go_quiet (fail)
          go_wp2
          go_roundw
          case rel => exact ⟨k + 1, _, by omega, by go_num, rfl, below_succ HE.out (HX.out.symm.trans HY.out)⟩
          case measure => simp [intOf]; omega
        · have HN : Hid (x ≠ y) := hxy
          have hb : (x != y) = true := by simpa using hxy
          clear hxy
          go_wp2
          go_quiet (fail)
          go_wp2
          go_ret
          refine ⟨ret_bool ?_, _, World.drewN_drewN ..⟩
          have hne : xs ≠ ys := fun e => HN.out (by rw [HX.out, HY.out, e])
          simp [hne]
      · go_wp2
        go_ret
        refine ⟨ret_bool ?_, _, rfl⟩
        have hkn : k = n0 := by omega
        have he : xs = ys := eq_of_getD (by rw [H0.out.len, H1.out.len]) (fun j hj => HE.out j (by rw [H0.out.len] at hj; omega))
        simp [he]
  · have hb : ((n0 : Int) != (n1 : Int)) = true := by rw [bne_iff_ne]; omega
    have HN : Hid (n0 ≠ n1) := hn
    clear hn
    go_enter Try.func22, Try.ntmps22
    go_wp2
    go_ret
    refine ⟨ret_bool ?_, 0, rfl⟩
    have hne : xs ≠ ys := fun e => HN.out (by rw [← H0.out.len, ← H1.out.len, e])
    simp [hne]

theorem getD_append {xs ys : List Int} (j : Nat) (n : Nat) (h : xs.length = n) : (xs ++ ys).getD (n + j) 0 = ys.getD j 0 := by
  subst h
  simp [List.getElem?_append_right]

theorem getD_left {xs ys : List Int} {j n : Nat} (h : xs.length = n) (hj : j < n) : (xs ++ ys).getD j 0 = xs.getD j 0 := by
  subst h
  simp [List.getElem?_append_left hj]

set_option maxHeartbeats 1600000 in
/-- zzIsJoin: true where the first slice reads as the second's bytes followed by the third's. -/
theorem join_any (ag : Option Addr) (ng cg : Nat) (a0 : Option Addr) (n0 c0 : Nat) (xs : List Int) (a1 : Option Addr) (n1 c1 : Nat) (ys : List Int) (w : World)
    (hg : Src w ag ng cg (xs ++ ys)) (h0 : Src w a0 n0 c0 xs) (h1 : Src w a1 n1 c1 ys) (b0 : n0 ≤ 281474976710656) (b1 : n1 ≤ 281474976710656) :
    Calls Try.prog 19 #[.slice ag ng cg, .slice a0 n0 c0, .slice a1 n1 c1] w fun e w' => e = .returned (.bool true) ∧ ∃ q, w' = w.drewN q := by
  have hng : ng = n0 + n1 := by have := hg.len; rw [List.length_append, h0.len, h1.len] at this; exact this.symm
  subst hng
  have HG : Hid (Src w ag (n0 + n1) cg (xs ++ ys)) := hg
  have H0 : Hid (Src w a0 n0 c0 xs) := h0
  have H1 : Hid (Src w a1 n1 c1 ys) := h1
  clear hg h0 h1
  have hcast : ((n0 + n1 : Nat) : Int) = (n0 : Int) + (n1 : Int) := by omega
  have hb : (((n0 : Int) + (n1 : Int)) != ((n0 : Int) + (n1 : Int))) = false := by simp
  go_enter Try.func19, Try.ntmps19
  go_wp2
  go_loopw [7] (fun i wr => ∃ k q : Nat, k ≤ n0 ∧ i = .int .i64 k ∧ wr = w.drewN q) (fun i _ => n0 - (intOf i).toNat)
  case atStart => exact ⟨0, 0, Nat.zero_le _, rfl, rfl⟩
  case round =>
    obtain ⟨k, q, hk, rfl, rfl⟩ := hrel
    by_cases hlt : k < n0
    · obtain ⟨b, off, rfl, hc0⟩ := H0.out.at hlt
      obtain ⟨b', off', rfl, hc1⟩ := HG.out.at (k := k) (by omega)
      have g0 := hc0 k hlt
      have g1 := hc1 k (by omega)
      rw [getD_left H0.out.len hlt] at g1
      clear hc0 hc1
      generalize xs.getD k 0 = x at g0 g1
      have hlt2 : k < n0 + n1 := by omega
      go_wp2
      go_quiet (fail)
      go_wp2
      go_roundw
      case rel => exact ⟨k + 1, _, by omega, by go_num, rfl⟩
      case measure => simp [intOf]; omega
    · go_wp2
      go_loopw [8] (fun i wr => ∃ j q' : Nat, j ≤ n1 ∧ i = .int .i64 j ∧ wr = w.drewN q') (fun i _ => n1 - (intOf i).toNat)
      case atStart => exact ⟨0, q, Nat.zero_le _, rfl, rfl⟩
      case round =>
        obtain ⟨j, q', hj, rfl, rfl⟩ := hrel
        by_cases hlt' : j < n1
        · obtain ⟨b, off, rfl, hc0⟩ := H1.out.at hlt'
          obtain ⟨b', off', rfl, hc1⟩ := HG.out.at (k := n0 + j) (by omega)
          have g0 := hc0 j hlt'
          have g1 := hc1 (n0 + j) (by omega)
          rw [getD_append j n0 H0.out.len] at g1
          clear hc0 hc1
          generalize ys.getD j 0 = x at g0 g1
          have hlt2 : n0 + j < n0 + n1 := by omega
          go_wp2
          go_quiet (fail)
          go_wp2
          go_roundw
          case rel => exact ⟨j + 1, _, by omega, by go_num, rfl⟩
          case measure => simp [intOf]; omega
        · go_wp2
          go_ret
          exact ⟨rfl, _, rfl⟩

theorem info5 : (Try.prog.info? 5).map (fun i => (i.zero, i.size, i.bytes)) = some (some (.int .u8 0), 1, 1) := by kernel_rfl

def cellsOf (xs : List Int) : List Value := xs.map (Value.int .u8)

/-- What the call has made itself: the slice value '.slice a n c' owns the bytes xs, in a block from 'base' on (or it is nil and xs is empty). -/
def Own (base : Nat) (w : World) (a : Option Addr) (n c : Nat) (xs : List Int) : Prop := xs.length = n ∧ w.ownsRow base 5 1 (.slice a n c) n (cellsOf xs)

/-- The shape of a value that owns a row. -/
theorem own_shape {base : Nat} {w : World} {v : Value} {n : Nat} {cs : List Value} (h : w.ownsRow base 5 1 v n cs) : ∃ a c, v = .slice a n c := by
  rcases h.2 with ⟨hv, hn⟩ | ⟨g, cap, cur, hv, _⟩
  · exact ⟨none, 0, by rw [hv, hn]⟩
  · exact ⟨_, _, hv⟩

theorem set_take (zs : List Value) (ys : List Value) (k : Nat) (u : Value) (hk : k < zs.length) (h : zs.take k = ys.take k) (hu : ys[k]? = some u) : (zs.set k u).take (k + 1) = ys.take (k + 1) := by
  rw [List.take_add_one, List.take_add_one, hu, List.getElem?_set_self hk, List.take_set, ← h]
  congr 1
  apply List.ext_getElem?
  intro i
  simp only [List.getElem?_set, List.length_take]
  split
  · rw [if_neg (by omega), List.getElem?_eq_none (by simp; omega)]
  · rfl

theorem cells_get (xs : List Int) (k : Nat) (hk : k < xs.length) : (cellsOf xs)[k]? = some (.int .u8 (xs.getD k 0)) := by
  simp [cellsOf, hk]

set_option maxHeartbeats 1600000 in
/-- zzCopyBytes: a fresh copy. -/
theorem copy_any (a : Option Addr) (n c : Nat) (xs : List Int) (w : World) (h : Src w a n c xs) (hb : n ≤ 281474976710656) (hlow : ∀ x, a = some x → 0 < n → x.block < w.heap.size) :
    Calls Try.prog 8 #[.slice a n c] w fun e w' => ∃ a' c', e = .returned (.slice a' n c') ∧ Own w.heap.size w' a' n c' xs ∧ Below w.heap.size w w' := by
  obtain ⟨i0, hi, hz0, hz1, hz2⟩ := info_parts info5
  have HS : Hid (Src w a n c xs) := h
  have HL : Hid (∀ x, a = some x → 0 < n → x.block < w.heap.size) := hlow
  clear h hlow
  cases a with
  | none =>
    obtain ⟨rfl, rfl⟩ := HS.out.nil rfl
    have hnil := fun w' => Lib.run_eql_slice_nil (P := Try.prog) w' 22 5 none 0 0 0 0 Try.underlying22
    have hxs : xs = [] := List.eq_nil_of_length_eq_zero HS.out.len
    go_enter Try.func8, Try.ntmps8
    go_wp2
    go_ret
    refine ⟨_, _, rfl, ⟨HS.out.len, ?_⟩, Below.refl _ _⟩
    subst hxs
    exact World.ownsRow_nil _ _ _ _
  | some x =>
    have hnil := fun w' => Lib.run_eql_slice_nil (P := Try.prog) w' 22 5 (some x) n c 0 0 Try.underlying22
    go_enter Try.func8, Try.ntmps8
    go_wp2_with (at_make; refine wpList_make_full _ rfl (.tmp 8) (.tmp 8) 22 rfl w.heap.size 5 i0 (.int .u8 0) 1 Try.underlying22 hi hz0 hz1 _ _ _ _ n rfl rfl (by simp) (by simp) (by rw [hz2]; omega) (by unfold maxLen; omega) (Nat.le_refl _) ?_; intro w1 hown hgrow)
    have hbel : Below w.heap.size w w1 := (Below.refl _ _).grown hgrow (Nat.le_refl _) (by intro k hk; cases hk)
    clear hnil hgrow
    go_loopw [4] (fun i wr => ∃ (k : Nat) (zs : List Value), k ≤ n ∧ i = .int .i64 k ∧ wr.ownsRow w.heap.size 5 1 (.slice (some ⟨w.heap.size, 0, none⟩) n n) n zs ∧ Hid (zs.take k = (cellsOf xs).take k) ∧ Below w.heap.size w wr) (fun i _ => n - (intOf i).toNat)
    case atStart => exact ⟨0, _, Nat.zero_le _, rfl, hown, rfl, hbel⟩
    case round =>
      obtain ⟨k, zs, hk, rfl, hown', HT, hbel'⟩ := hrel
      by_cases hlt : k < n
      · obtain ⟨b, off, hx, hc0⟩ := HS.out.at hlt
        obtain rfl : x = ⟨b, off, none⟩ := by simpa using hx
        have hbl : b < w.heap.size := HL.out _ rfl (by omega)
        have g0 := (hbel'.cell (p := ⟨b, off + k, none⟩) hbl).trans (hc0 k hlt)
        have hzl : zs.length = n := by have := hown'.1; simpa using this
        have g1 : wr.cell? ⟨w.heap.size, k, none⟩ = some (zs[k]'(by omega)) := by rw [hown'.cellAt k (by omega)]; simp [hzl, hlt]
        have g2 := hown'.frozenAt k
        have R := hown'.stored k (.int .u8 (xs.getD k 0))
        have RB := hbel'.setCell (p := ⟨w.heap.size, k, none⟩) (Nat.le_refl _) (.int .u8 (xs.getD k 0))
        have RT : Hid ((zs.set k (.int .u8 (xs.getD k 0))).take (k + 1) = (cellsOf xs).take (k + 1)) := set_take _ _ _ _ (by omega) HT.out (cells_get _ _ (by rw [HS.out.len]; exact hlt))
        generalize xs.getD k 0 = u at *
        clear hc0 hx hown
        go_wp2
        go_roundw
        case rel => exact ⟨k + 1, _, by omega, by go_num, R.1, RT, RB⟩
        case measure => simp [intOf]; omega
      · go_wp2
        go_ret
        refine ⟨_, _, rfl, ⟨HS.out.len, ?_⟩, hbel'⟩
        have hkn : k = n := by omega
        have hzl : zs.length = n := by have := hown'.1; simpa using this
        have e1 : zs = cellsOf xs := by
          have := HT.out
          rwa [List.take_of_length_le (by omega), List.take_of_length_le (by simp [cellsOf, HS.out.len]; omega)] at this
        rw [← e1]
        exact hown'

end Go.Proofs.Qxb6615840a
