/-
  THE WRITER: ZZNewWriter, (*writer).Write, ZZWriterOut by their contracts.
-/
import Derived.Test.Qxb6615840aBytes
import Derived.Laws.AppendOwnNone
namespace Go.Proofs.Qxb6615840a
open Go.RowKit

/-- A writer in block B, holding the bytes xs; all of it made by the call, from 'base' on. -/
structure Wr (base : Nat) (w : World) (B : Nat) (a : Option Addr) (n c : Nat) (xs : List Int) : Prop where
  blk : w.heap[B]? = some (.cells #[.slice a n c, .pointer none] 45 (0, 0))
  low : base ≤ B
  own : Own base w a n c xs

section
variable {base : Nat} {w w' : World} {B : Nat} {a : Option Addr} {n c : Nat} {xs : List Int}
theorem Wr.lt (h : Wr base w B a n c xs) : B < w.heap.size := lt_of_block h.blk
theorem Wr.cell (h : Wr base w B a n c xs) : w.cell? ⟨B, 0, none⟩ = some (.slice a n c) := by simp [World.cell?, h.blk]
theorem Wr.free (h : Wr base w B a n c xs) : w.frozen? ⟨B, 0, none⟩ = false := by simp [World.frozen?, h.blk]

theorem Own.kept (h : Own base w a n c xs) (hb : Below w.heap.size w w') : Own base w' a n c xs := by
  refine ⟨h.1, h.2.1, ?_⟩
  rcases h.2.2 with h2 | ⟨g, cap, cur, hv, hg, hh, r⟩
  · exact .inl h2
  · exact .inr ⟨g, cap, cur, hv, hg, by rw [hb.block g (lt_of_block hh)]; exact hh, r⟩

/-- Whatever turns no block that is there leaves the writer alone. -/
theorem Wr.kept (h : Wr base w B a n c xs) (hb : Below w.heap.size w w') : Wr base w' B a n c xs :=
  ⟨by rw [hb.block B h.lt]; exact h.blk, h.low, h.own.kept hb⟩

/-- What is owned, read as a slice value. -/
theorem Own.src (h : Own base w a n c xs) (hx : ∀ x ∈ xs, 0 ≤ x ∧ x ≤ 255) : Src w a n c xs := by
  have h2 := h.2
  rcases h2.2 with ⟨hv, hn⟩ | ⟨g, cap, cur, hv, hg, hh, hnc, _, hcs, ht⟩
  · simp at hv
    obtain ⟨rfl, rfl, rfl⟩ := hv
    exact ⟨h.1, Nat.le_refl _, fun _ => ⟨rfl, rfl⟩, hx, fun x hx' => by cases hx'⟩
  · simp at hv
    obtain ⟨rfl, rfl⟩ := hv
    refine ⟨h.1, hnc, fun e => (by cases e), hx, ?_⟩
    intro x ex i hi
    obtain rfl : x = ⟨g, 0, none⟩ := by simpa using ex.symm
    have := h2.cellAt i (by omega)
    rw [cells_get xs i (by rw [h.1]; exact hi)] at this
    rw [Addr.add_lit, Nat.zero_add]
    exact this

theorem block_add' (x : Addr) (n : Nat) : (x.add n).block = x.block := by unfold Addr.add; split <;> rfl

theorem Src.kept {k : Nat} (h : Src w a n c xs) (hb : Below k w w') (hl : ∀ x, a = some x → 0 < n → x.block < k) : Src w' a n c xs :=
  ⟨h.len, h.cap, h.nil, h.byte, fun x hx i hi => (hb.cell (p := x.add i) (by rw [block_add']; exact hl x hx (by omega))).trans (h.cell x hx i hi)⟩

theorem src_news {x : Addr} (h : Src w (some x) n c xs) : ∀ j u, (cellsOf xs)[j]? = some u → w.cell? (x.add j) = some u := by
  intro j u hj
  have hl : j < xs.length := by
    rcases Nat.lt_or_ge j xs.length with h' | h'
    · exact h'
    · rw [List.getElem?_eq_none (by simpa [cellsOf] using h')] at hj; cases hj
  rw [cells_get xs j hl] at hj
  rw [← hj]
  exact h.cell x rfl j (by rw [← h.len]; exact hl)
end

theorem new_any (a : Option Addr) (n c : Nat) (xs : List Int) (base : Nat) (w : World) (h : Own base w a n c xs) (hb : base ≤ w.heap.size) :
    Calls Try.prog 17 #[.slice a n c] w fun e w' => e = .returned (.pointer (some ⟨w.heap.size, 0, none⟩)) ∧ Wr base w' w.heap.size a n c xs ∧ Below w.heap.size w w' := by
  have H : Hid (Own base w a n c xs) := h
  clear h
  go_enter Try.func17, Try.ntmps17
  go_wp2
  go_ret
  have hbel := (Below.refl w.heap.size w).alloc (Nat.le_refl _) (.cells #[.slice a n c, .pointer none] 45)
  exact ⟨rfl, ⟨heap_alloc_new w _, hb, H.out.kept hbel⟩, hbel⟩

theorem out_any (a : Option Addr) (n c : Nat) (B : Nat) (w : World) (h : w.cell? ⟨B, 0, none⟩ = some (.slice a n c)) :
    Calls Try.prog 20 #[.pointer (some ⟨B, 0, none⟩)] w fun e w' => e = .returned (.slice a n c) ∧ w = w' := by
  go_enter Try.func20, Try.ntmps20
  go_wp2
  go_ret
  exact ⟨rfl, rfl⟩

theorem cells_app (xs ys : List Int) : cellsOf (xs ++ ys) = cellsOf xs ++ cellsOf ys := by simp [cellsOf]
theorem cells_one (ys : List Int) : ∀ u ∈ cellsOf ys, u.oneCell' = true := ints_oneCell .u8 ys

theorem two_setCell {w : World} {b : Nat} {v u x : Value} {t : TypeId} (h : w.heap[b]? = some (.cells #[v, x] t (0, 0))) : (w.setCell ⟨b, 0, none⟩ u).heap[b]? = some (.cells #[u, x] t (0, 0)) := by
  have hlt := lt_of_block h
  have h' : w.heap[b] = .cells #[v, x] t (0, 0) := by simpa [Array.getElem?_eq_getElem hlt] using h
  show (w.heap.modify b _)[b]? = _
  rw [Array.getElem?_eq_getElem (by simpa using hlt), Array.getElem_modify_self, h']
  rfl

/-- What an append to the writer's bytes and the store of the new slice leave. -/
theorem wrote {base : Nat} {w w1 : World} {B : Nat} {a a' : Option Addr} {n c m c' : Nat} {xs ys : List Int} (h : Wr base w B a n c xs) (hy : ys.length = m)
    (hown : w1.ownsRow base 5 1 (.slice a' (n + m) c') (n + m) (cellsOf xs ++ cellsOf ys)) (hgrow : w.grownBy w1 (Value.slice a n c).ownBlock) (hbs : base ≤ w.heap.size) :
    Wr base (w1.setCell ⟨B, 0, none⟩ (.slice a' (n + m) c')) B a' (n + m) c' (xs ++ ys) ∧ Below base w (w1.setCell ⟨B, 0, none⟩ (.slice a' (n + m) c')) ∧
      w1.cell? ⟨B, 0, none⟩ = some (.slice a n c) ∧ w1.frozen? ⟨B, 0, none⟩ = false := by
  have hne : some B ≠ (Value.slice a n c).ownBlock := by
    intro e
    rcases h.own.2.2 with ⟨hv, _⟩ | ⟨g, cap, cur, hv, _, hh, _⟩
    · rw [hv] at e; simp [Value.ownBlock] at e
    · rw [hv] at e
      simp [Value.ownBlock] at e
      subst e
      rw [h.blk] at hh
      simp at hh
  have hblk1 : w1.heap[B]? = some (.cells #[.slice a n c, .pointer none] 45 (0, 0)) := by rw [hgrow.block B h.lt hne]; exact h.blk
  have hne' : (Value.slice a' (n + m) c').ownBlock ≠ some B := by
    intro e
    rcases hown.2 with ⟨hv, _⟩ | ⟨g, cap, cur, hv, _, hh, _⟩
    · rw [hv] at e; simp [Value.ownBlock] at e
    · rw [hv] at e
      simp [Value.ownBlock] at e
      subst e
      rw [hblk1] at hh
      simp at hh
  have hlowrow : ∀ k, (Value.slice a n c).ownBlock = some k → base ≤ k := fun k hk => (h.own.2.lt k hk).1
  refine ⟨⟨two_setCell hblk1, h.low, ?_, ?_⟩, ?_, ?_, ?_⟩
  · rw [List.length_append, h.own.1, hy]
  · rw [cells_app]; exact ownsRow_setCell_other hown hne' _
  · exact ((Below.refl base w).grown hgrow hbs hlowrow).setCell h.low _
  · simp [World.cell?, hblk1]
  · simp [World.frozen?, hblk1]

set_option maxHeartbeats 1600000 in
/-- (*writer).Write: the bytes are appended; it reports their number and no error. -/
theorem write_any (base : Nat) (B : Nat) (a : Option Addr) (n c : Nat) (xs : List Int) (a1 : Option Addr) (m c1 : Nat) (ys : List Int) (w : World)
    (h : Wr base w B a n c xs) (h1 : Src w a1 m c1 ys) (hb : n + m ≤ 2097152) (hbs : base ≤ w.heap.size) :
    Calls Try.prog 18 #[.pointer (some ⟨B, 0, none⟩), .slice a1 m c1] w fun e w' => e = .returned (.tuple #[.int .i64 m, .nilIface]) ∧ ∃ a' c', Wr base w' B a' (n + m) c' (xs ++ ys) ∧ Below base w w' := by
  obtain ⟨i0, hi, hz0, hz1, hz2⟩ := info_parts info5
  have hcell := h.cell
  have hfree := h.free
  have hown := h.own.2
  have H : Hid (Wr base w B a n c xs) := h
  have H1 : Hid (Src w a1 m c1 ys) := h1
  clear h h1
  cases a1 with
  | none =>
    obtain ⟨rfl, rfl⟩ := H1.out.nil rfl
    have hys : ys = [] := List.eq_nil_of_length_eq_zero H1.out.len
    go_enter Try.func18, Try.ntmps18
    go_wp2_with (at_builtin; refine wpList_append_own_none rfl (.tmp 10) (.tmp 11) 22 rfl base 5 i0 1 Try.underlying22 hi _ _ _ rfl hown rfl ?_)
    go_ret2
    have R := wrote (a' := a) (c' := c) (m := 0) (w1 := w) (ys := ys) H.out (by rw [hys]; rfl) (by rw [hys]; simpa [cellsOf] using hown) (World.grownBy.refl _ _) hbs
    exact ⟨rfl, _, _, R.1, R.2.1⟩
  | some x =>
    go_enter Try.func18, Try.ntmps18
    go_wp2_with (at_builtin; refine wpList_append_own _ rfl (.tmp 10) (.tmp 11) 22 rfl base 5 i0 (.int .u8 0) 1 1 Try.underlying22 hi hz0 hz1 hz2 rfl (by decide) _ _ _ rfl hown x m c1 (cellsOf ys) rfl (by simp [cellsOf, H1.out.len]) (src_news H1.out) (cells_one ys) (by unfold maxLen; omega) (by omega) hbs ?_; intro v' w1 hown1 hgrow hn1; obtain ⟨a', c', hv⟩ := own_shape hown1; subst hv; obtain ⟨R1, R2, R3, R4⟩ := wrote H.out H1.out.len hown1 hgrow hbs; clear hn1 hcell hfree)
    go_ret2
    exact ⟨rfl, _, _, R1, R2⟩

end Go.Proofs.Qxb6615840a
