/-
  BYTES BEHIND A SLICE VALUE, told once for every walk of this seat; bytesEqual by its contract; what the call owns.
-/
import Derived.Test.Qxb6614553aRows
import Derived.WalkKit
import Derived.WalkSpells
import Derived.ProofKit
import Derived.OpenShut
import Derived.Below
import Derived.Deep.Draws
import Derived.Deep.QuietTactic
import Derived.BigQuiet
namespace Go.Proofs.Qxb6614553a
open Go.RowKit

/-- The slice value '.slice a n c' reads, in w, as the bytes xs. -/
structure Src (w : World) (a : Option Addr) (n c : Nat) (xs : List Int) : Prop where
  len : xs.length = n
  cap : n ≤ c
  nil : a = none → n = 0 ∧ c = 0
  byte : ∀ x ∈ xs, 0 ≤ x ∧ x ≤ 255
  cell : ∀ x, a = some x → ∀ i, i < n → w.cell? (x.add i) = some (.int .u8 (xs.getD i 0))

theorem Src.at {w : World} {a : Option Addr} {n c : Nat} {xs : List Int} (h : Src w a n c xs) {k : Nat} (hk : k < n) :
    ∃ b off, a = some ⟨b, off, none⟩ ∧ ∀ j, j < n → w.cell? ⟨b, off + j, none⟩ = some (.int .u8 (xs.getD j 0)) := by
  cases a with
  | none => have := h.nil rfl; omega
  | some x =>
    obtain ⟨b, off, rfl, hc⟩ := ints_at (w := w) (a := x) (k := .u8) (zs := xs) (fun i hi => h.cell x rfl i (by rw [← h.len]; exact hi)) (by rw [h.len]; omega)
    exact ⟨b, off, rfl, fun j hj => hc j (by rw [h.len]; exact hj)⟩

theorem getD_lt {xs : List Int} {k : Nat} (hk : k < xs.length) : xs.getD k 0 = xs[k] := by simp [hk]

theorem getD_byte {xs : List Int} (h : ∀ x ∈ xs, 0 ≤ x ∧ x ≤ 255) (k : Nat) : 0 ≤ xs.getD k 0 ∧ xs.getD k 0 ≤ 255 := by
  rcases Nat.lt_or_ge k xs.length with hk | hk
  · rw [getD_lt hk]; exact h _ (List.getElem_mem hk)
  · simp [hk]

theorem eq_of_getD {xs ys : List Int} (hl : xs.length = ys.length) (h : ∀ j, j < xs.length → xs.getD j 0 = ys.getD j 0) : xs = ys := by
  apply List.ext_getElem hl
  intro i h1 h2
  have := h i h1
  rwa [getD_lt h1, getD_lt h2] at this

theorem below_succ {p : Nat → Prop} {k : Nat} (h : ∀ j, j < k → p j) (hk : p k) : ∀ j, j < k + 1 → p j := by
  intro j hj
  rcases Nat.lt_or_ge j k with h' | h'
  · exact h j h'
  · have : j = k := by omega
    subst this; exact hk

theorem ret_bool {a b : Bool} (h : a = b) : Ending.returned (.bool a) = .returned (.bool b) := by rw [h]

set_option maxHeartbeats 800000 in
/-- bytesEqual: true just where the bytes are the same; it draws, and turns nothing. -/
theorem equal_any (a0 : Option Addr) (n0 c0 : Nat) (xs : List Int) (a1 : Option Addr) (n1 c1 : Nat) (ys : List Int) (w : World)
    (h0 : Src w a0 n0 c0 xs) (h1 : Src w a1 n1 c1 ys) (b0 : n0 ≤ 281474976710656) (b1 : n1 ≤ 281474976710656) :
    Calls Try.prog 8 #[.slice a0 n0 c0, .slice a1 n1 c1] w fun e w' => e = .returned (.bool (decide (xs = ys))) ∧ ∃ q, w' = w.drewN q := by
  have H0 : Hid (Src w a0 n0 c0 xs) := h0
  have H1 : Hid (Src w a1 n1 c1 ys) := h1
  clear h0 h1
  by_cases hn : n0 = n1
  · subst hn
    go_enter Try.func8, Try.ntmps8
    go_wp2
    go_loopw [5] (fun i wr => ∃ k q : Nat, k ≤ n0 ∧ i = .int .i64 k ∧ wr = w.drewN q ∧ Hid (∀ j, j < k → xs.getD j 0 = ys.getD j 0)) (fun i _ => n0 - (intOf i).toNat)
    case atStart => exact ⟨0, 0, Nat.zero_le _, rfl, rfl, fun j hj => absurd hj (Nat.not_lt_zero _)⟩
    case round =>
      obtain ⟨k, q, hk, rfl, rfl, HE⟩ := hrel
      by_cases hlt : k < n0
      · obtain ⟨b, off, rfl, hc0⟩ := H0.out.at hlt
        obtain ⟨b', off', rfl, hc1⟩ := H1.out.at hlt
        have g0 := hc0 k hlt
        have g1 := hc1 k hlt
        clear hc0 hc1
        obtain ⟨x, hx⟩ : ∃ x, x = xs.getD k 0 := ⟨_, rfl⟩
        obtain ⟨y, hy⟩ : ∃ y, y = ys.getD k 0 := ⟨_, rfl⟩
        rw [← hx] at g0
        rw [← hy] at g1
        have HX : Hid (x = xs.getD k 0) := hx
        have HY : Hid (y = ys.getD k 0) := hy
        clear hx hy
        by_cases hxy : x = y
        · subst hxy
          go_wp2
          go_quiet (fail)
          go_wp2
          go_roundw
          case rel => exact ⟨k + 1, _, by omega, by go_num, rfl, below_succ HE.out (HX.out.symm.trans HY.out)⟩
          case measure => simp [intOf]; omega
        · have HN : Hid (x ≠ y) := hxy
          have hb : (x != y) = true := by simpa using hxy
          clear hxy
          go_wp2
          go_quiet (fail)
          go_wp2
          go_ret
          refine ⟨ret_bool ?_, _, World.drewN_drewN ..⟩
          have hne : xs ≠ ys := fun e => HN.out (by rw [HX.out, HY.out, e])
          simp [hne]
      · go_wp2
        go_ret
        refine ⟨ret_bool ?_, _, rfl⟩
        have hkn : k = n0 := by omega
        have he : xs = ys := eq_of_getD (by rw [H0.out.len, H1.out.len]) (fun j hj => HE.out j (by rw [H0.out.len] at hj; omega))
        simp [he]
  · have hb : ((n0 : Int) != (n1 : Int)) = true := by rw [bne_iff_ne]; omega
    have HN : Hid (n0 ≠ n1) := hn
    clear hn
    go_enter Try.func8, Try.ntmps8
    go_wp2
    go_ret
    refine ⟨ret_bool ?_, 0, rfl⟩
    have hne : xs ≠ ys := fun e => HN.out (by rw [← H0.out.len, ← H1.out.len, e])
    simp [hne]

theorem info5 : (Try.prog.info? 5).map (fun i => (i.zero, i.size, i.bytes)) = some (some (.int .u8 0), 1, 1) := by kernel_rfl

def cellsOf (xs : List Int) : List Value := xs.map (Value.int .u8)

/-- What the call has made itself: the slice value '.slice a n c' owns the bytes xs, in a block from 'base' on (or it is nil and xs is empty). -/
def Own (base : Nat) (w : World) (a : Option Addr) (n c : Nat) (xs : List Int) : Prop := xs.length = n ∧ w.ownsRow base 5 1 (.slice a n c) n (cellsOf xs)

/-- The shape of a value that owns a row. -/
theorem own_shape {base : Nat} {w : World} {v : Value} {n : Nat} {cs : List Value} (h : w.ownsRow base 5 1 v n cs) : ∃ a c, v = .slice a n c := by
  rcases h.2 with ⟨hv, hn⟩ | ⟨g, cap, cur, hv, _⟩
  · exact ⟨none, 0, by rw [hv, hn]⟩
  · exact ⟨_, _, hv⟩

theorem cells_get (xs : List Int) (k : Nat) (hk : k < xs.length) : (cellsOf xs)[k]? = some (.int .u8 (xs.getD k 0)) := by
  simp [cellsOf, hk]

section
variable {base : Nat} {w w' : World} {B : Nat} {a : Option Addr} {n c : Nat} {xs : List Int}
theorem Own.kept (h : Own base w a n c xs) (hb : Below w.heap.size w w') : Own base w' a n c xs := by
  refine ⟨h.1, h.2.1, ?_⟩
  rcases h.2.2 with h2 | ⟨g, cap, cur, hv, hg, hh, r⟩
  · exact .inl h2
  · exact .inr ⟨g, cap, cur, hv, hg, by rw [hb.block g (lt_of_block hh)]; exact hh, r⟩

/-- What is owned, read as a slice value. -/
theorem Own.src (h : Own base w a n c xs) (hx : ∀ x ∈ xs, 0 ≤ x ∧ x ≤ 255) : Src w a n c xs := by
  have h2 := h.2
  rcases h2.2 with ⟨hv, hn⟩ | ⟨g, cap, cur, hv, hg, hh, hnc, _, hcs, ht⟩
  · simp at hv
    obtain ⟨rfl, rfl, rfl⟩ := hv
    exact ⟨h.1, Nat.le_refl _, fun _ => ⟨rfl, rfl⟩, hx, fun x hx' => by cases hx'⟩
  · simp at hv
    obtain ⟨rfl, rfl⟩ := hv
    refine ⟨h.1, hnc, fun e => (by cases e), hx, ?_⟩
    intro x ex i hi
    obtain rfl : x = ⟨g, 0, none⟩ := by simpa using ex.symm
    have := h2.cellAt i (by omega)
    rw [cells_get xs i (by rw [h.1]; exact hi)] at this
    rw [Addr.add_lit, Nat.zero_add]
    exact this

theorem block_add' (x : Addr) (n : Nat) : (x.add n).block = x.block := by unfold Addr.add; split <;> rfl

theorem Src.kept {k : Nat} (h : Src w a n c xs) (hb : Below k w w') (hl : ∀ x, a = some x → 0 < n → x.block < k) : Src w' a n c xs :=
  ⟨h.len, h.cap, h.nil, h.byte, fun x hx i hi => (hb.cell (p := x.add i) (by rw [block_add']; exact hl x hx (by omega))).trans (h.cell x hx i hi)⟩

theorem src_news {x : Addr} (h : Src w (some x) n c xs) : ∀ j u, (cellsOf xs)[j]? = some u → w.cell? (x.add j) = some u := by
  intro j u hj
  have hl : j < xs.length := by
    rcases Nat.lt_or_ge j xs.length with h' | h'
    · exact h'
    · rw [List.getElem?_eq_none (by simpa [cellsOf] using h')] at hj; cases hj
  rw [cells_get xs j hl] at hj
  rw [← hj]
  exact h.cell x rfl j (by rw [← h.len]; exact hl)
end

theorem cells_app (xs ys : List Int) : cellsOf (xs ++ ys) = cellsOf xs ++ cellsOf ys := by simp [cellsOf]
theorem cells_one (ys : List Int) : ∀ u ∈ cellsOf ys, u.oneCell' = true := ints_oneCell .u8 ys

/-- WHAT THE WALK IS TOLD OF A SLICE OF INTEGERS THAT CAME IN (the shell's own words). -/
def IsRow (k : IntKind) (w : World) (a : Option Addr) (len cap : Nat) (zs : List Int) : Prop :=
  (a = none ∧ len = 0 ∧ cap = 0 ∧ zs = []) ∨
  ∃ x, a = some x ∧ len ≤ cap ∧ cap ≤ maxLen ∧ zs.length = cap ∧ (∀ i, i < zs.length → w.cell? (x.add i) = some (.int k (zs.getD i 0))) ∧ ∀ n ∈ zs, (Lit.int k n).wf = true

theorem block_lt {w : World} {p : Addr} {v : Value} (h : w.cell? p = some v) : p.block < w.heap.size := by
  rcases Nat.lt_or_ge p.block w.heap.size with h' | h'
  · exact h'
  · simp [World.cell?, Array.getElem?_eq_none h'] at h

theorem IsRow.src {w : World} {a : Option Addr} {len cap : Nat} {zs : List Int} (h : IsRow .u8 w a len cap zs) : Src w a len cap (zs.take len) ∧ ∀ x, a = some x → 0 < len → x.block < w.heap.size := by
  rcases h with ⟨rfl, rfl, rfl, rfl⟩ | ⟨x, rfl, hl, hm, hz, hc, hw⟩
  · exact ⟨⟨rfl, Nat.le_refl _, fun _ => ⟨rfl, rfl⟩, fun x hx => by simp at hx, fun x hx => by cases hx⟩, fun x hx => by cases hx⟩
  · refine ⟨⟨by simp; omega, hl, fun e => (by cases e), fun n hn => ?_, fun y hy i hi => ?_⟩, fun y hy hp => ?_⟩
    · have := hw n (List.mem_of_mem_take hn)
      simp [Lit.wf, IntKind.min, IntKind.max, IntKind.signed, IntKind.bits] at this
      omega
    · cases hy
      rw [hc i (by omega)]
      simp [hi]
    · cases hy
      have := block_lt (hc 0 (by omega))
      rwa [block_add'] at this

theorem bel_drewN {B : Nat} {a w : World} (h : Below B a w) (q : Nat) : Below B a (w.drewN q) := ⟨h.os, h.tape, h.output, h.size, h.block⟩

theorem Src.take {w : World} {a : Option Addr} {n c : Nat} {xs : List Int} (h : Src w a n c xs) {k : Nat} (hk : k ≤ n) : Src w a k c (xs.take k) := by
  have hl := h.len
  have hc := h.cap
  refine ⟨by simp; omega, by omega, fun e => ?_, fun x hx => h.byte x (List.mem_of_mem_take hx), fun x e i hi => ?_⟩
  · have := h.nil e; omega
  · rw [h.cell x e i (by omega)]; simp [hi]

theorem Src.dropAt {w : World} {x : Addr} {n c : Nat} {xs : List Int} (h : Src w (some x) n c xs) {k : Nat} (hk : k ≤ n) : Src w (some (x.add k)) (n - k) (c - k) (xs.drop k) := by
  have hl := h.len
  have hc := h.cap
  refine ⟨by simp; omega, by omega, fun e => (by cases e), fun x hx => h.byte x (List.mem_of_mem_drop hx), fun y e i hi => ?_⟩
  cases e
  rw [Addr.add_add, h.cell x rfl (k + i) (by omega)]
  simp [List.getElem?_drop]

theorem Src.dropEnd {w : World} {x : Addr} {n c : Nat} {xs : List Int} (h : Src w (some x) n c xs) {k : Nat} (hk : k ≤ n) (he : c = k) : Src w (some x) (n - k) 0 (xs.drop k) := by
  have hl := h.len
  have hc := h.cap
  exact ⟨by simp; omega, by omega, fun e => (by cases e), fun x hx => h.byte x (List.mem_of_mem_drop hx), fun y e i hi => by omega⟩

theorem Src.drewN {w : World} {a : Option Addr} {n c : Nat} {xs : List Int} (h : Src w a n c xs) (q : Nat) : Src (w.drewN q) a n c xs := ⟨h.len, h.cap, h.nil, h.byte, h.cell⟩

theorem bytes_app {xs ys : List Int} (hx : ∀ x ∈ xs, 0 ≤ x ∧ x ≤ 255) (hy : ∀ x ∈ ys, 0 ≤ x ∧ x ≤ 255) : ∀ x ∈ xs ++ ys, 0 ≤ x ∧ x ≤ 255 := by
  intro x h
  rcases List.mem_append.1 h with h | h
  · exact hx x h
  · exact hy x h

end Go.Proofs.Qxb6614553a
