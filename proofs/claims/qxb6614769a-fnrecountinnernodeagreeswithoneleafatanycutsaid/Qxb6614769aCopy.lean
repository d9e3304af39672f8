/-
  zzb1CopyTexts by its contract: the lengths are kept.
-/
import Derived.Test.Qxb6614769aMeasure
import Derived.Laws.CopyOwn
import Derived.Deep.Slices
namespace Go.Proofs.Qxb6614769a
open Go.RowKit

theorem info41 : (Try.prog.info? 41).map (fun i => (i.zero, i.size, i.bytes)) = some (some (.slice none 0 0), 1, 24) := by kernel_rfl
theorem info5 : (Try.prog.info? 5).map (fun i => (i.zero, i.size, i.bytes)) = some (some (.int .u8 0), 1, 1) := by kernel_rfl
theorem size5 : (Try.prog.info? 5).map (·.size) = some 1 := by kernel_rfl

/-- The outer row: its first k places hold slices of the lengths L; the rest are nil. -/
structure Outer (w : World) (g n k : Nat) (L : Nat → Nat) (cu : Array Value) : Prop where
  blk : w.heap[g]? = some (.cells cu 41 (0, 0))
  size : cu.size = n
  done : ∀ j, j < k → ∃ a c, cu[j]? = some (.slice a (L j) c)
  rest : ∀ j, k ≤ j → j < n → cu[j]? = some (.slice none 0 0)

theorem outer_made {base : Nat} {w : World} {g n : Nat} {L : Nat → Nat} (h : w.ownsRow base 41 1 (.slice (some ⟨g, 0, none⟩) n n) n (madeCells (Value.slice none 0 0).cells (n * 1)).toList) :
    ∃ cu, Outer w g n 0 L cu := by
  rcases h.2 with ⟨hv, _⟩ | ⟨g', cap, cur, hv, _, hh, _, _, hcs, ht⟩
  · simp at hv
  · simp at hv
    obtain ⟨rfl, rfl⟩ := hv
    refine ⟨cur, hh, by simpa using hcs, fun j hj => absurd hj (Nat.not_lt_zero _), fun j _ hj => ?_⟩
    have e : cur.toList = List.replicate n (Value.slice none 0 0) := by
      rw [List.take_of_length_le (by simp; omega)] at ht
      rw [ht, Nat.mul_one]
      exact toList_madeCells_one _ n
    rw [← Array.getElem?_toList, e]
    simp [hj]

theorem outer_cell {w : World} {g k : Nat} {cu : Array Value} (h : w.heap[g]? = some (.cells cu 41 (0, 0))) (hk : k < cu.size) : (∃ v, w.cell? ⟨g, k, none⟩ = some v) ∧ w.frozen? ⟨g, k, none⟩ = false :=
  ⟨⟨cu[k], by simp [World.cell?, h, hk]⟩, by simp [World.frozen?, h]⟩

theorem outer_put {w w' : World} {g n k : Nat} {L : Nat → Nat} {cu : Array Value} (ho : Outer w g n k L cu) (h : w'.heap[g]? = some (.cells cu 41 (0, 0))) (hk : k < n) (a : Option Addr) (c : Nat) :
    Outer (w'.setCell ⟨g, k, none⟩ (.slice a (L k) c)) g n (k + 1) L (cu.setIfInBounds k (.slice a (L k) c)) := by
  refine ⟨heap_setCell_same w' g k cu 41 _ h, by simpa using ho.size, fun j hj => ?_, fun j hj hn => ?_⟩
  · rw [Array.getElem?_setIfInBounds]
    by_cases e : k = j
    · subst e; rw [if_pos rfl, if_pos (by rw [ho.size]; exact hk)]; exact ⟨a, c, rfl⟩
    · rw [if_neg e]; exact ho.done j (by omega)
  · rw [Array.getElem?_setIfInBounds, if_neg (by omega)]; exact ho.rest j (by omega) hn

/-- The block that a 'make' of bytes has laid. -/
theorem made5 {base : Nat} {w : World} {g n : Nat} {cs : List Value} (h : w.ownsRow base 5 1 (.slice (some ⟨g, 0, none⟩) n n) n cs) :
    ∃ cur : List Value, cur.length = n ∧ w.heap[g]? = some (.cells cur.toArray 5 (0, 0)) := by
  rcases h.2 with ⟨hv, _⟩ | ⟨g', cap, cur, hv, _, hh, _, _, hcs, _⟩
  · simp at hv
  · simp at hv
    obtain ⟨rfl, rfl⟩ := hv
    exact ⟨cur.toList, by simpa using hcs, by simpa using hh⟩

/-- The bytes of a text, as cells. -/
def textCells (n : Nat) (Z : Nat → Int) : List Value := (List.range n).map fun j => .int .u8 (Z j)
theorem textCells_len (n : Nat) (Z : Nat → Int) : (textCells n Z).length = n := by simp [textCells]
theorem textCells_one (n : Nat) (Z : Nat → Int) : ∀ v ∈ textCells n Z, v.oneCell' = true := by
  intro v hv; simp [textCells] at hv; obtain ⟨j, _, rfl⟩ := hv; rfl
theorem textCells_pos {w : World} {x : Addr} {n c g : Nat} {Z : Nat → Int} (h : VRow w (some x) n c (fun j => .int .u8 (Z j))) :
    0 < (textCells n Z).length → (some (⟨g, 0, none⟩ : Addr)) = some ⟨g, 0, none⟩ ∧ ∃ ad, some x = some ad ∧ ∀ j v, (textCells n Z)[j]? = some v → w.cell? (ad.add j) = some v := by
  refine fun _ => ⟨rfl, x, rfl, fun j v hj => ?_⟩
  have hl : j < n := by
    rcases Nat.lt_or_ge j n with h' | h'
    · exact h'
    · rw [List.getElem?_eq_none (by rw [textCells_len]; exact h')] at hj; cases hj
  simp [textCells, hl] at hj
  subst hj
  exact h.cell x rfl j hl

set_option maxHeartbeats 4000000 in
theorem copyTexts_any (at' : Option Addr) (nt ct : Nat) (A : Nat → Option Addr) (L C : Nat → Nat) (Z : Nat → Nat → Int) (w : World)
    (ht : Texts w at' nt ct A L C Z) (hL : ∀ i, i < nt → L i ≤ 1048576) (hb : nt ≤ 65536) :
    Calls Try.prog 7 #[.slice at' nt ct] w fun e w' => ∃ (a' : Option Addr) (c' : Nat) (A' : Nat → Option Addr) (C' : Nat → Nat), e = .returned (.slice a' nt c') ∧ VRow w' a' nt c' (fun i => .slice (A' i) (L i) (C' i)) ∧ Below w.heap.size w w' := by
  obtain ⟨i0, hi, hz0, hz1, hz2⟩ := info_parts info41
  obtain ⟨i5, hi5, hy0, hy1, hy2⟩ := info_parts info5
  have HT := hidden' ht
  have HL := hidden' hL
  clear ht hL
  cases at' with
  | none =>
    obtain ⟨rfl, rfl⟩ := HT.out.row.nil rfl
    have hnil := fun w' => Lib.run_eql_slice_nil (P := Try.prog) w' 22 41 none 0 0 0 0 Try.underlying22
    go_enter Try.func7, Try.ntmps7
    go_wp2
    go_ret
    exact ⟨none, 0, fun _ => none, fun _ => 0, rfl, ⟨Nat.le_refl _, fun _ => ⟨rfl, rfl⟩, fun x hx => by cases hx⟩, Below.refl _ _⟩
  | some x =>
    have hnil := fun w' => Lib.run_eql_slice_nil (P := Try.prog) w' 22 41 (some x) nt ct 0 0 Try.underlying22
    go_enter Try.func7, Try.ntmps7
    go_wp2_with (at_make; refine wpList_make_full _ rfl (.tmp 9) (.tmp 9) 22 rfl w.heap.size 41 i0 (.slice none 0 0) 1 Try.underlying22 hi hz0 hz1 _ _ _ _ nt rfl rfl (by simp) (by simp) (by rw [hz2]; omega) (by unfold maxLen; omega) (Nat.le_refl _) ?_; intro w1 hown hgrow; obtain ⟨cu0, HO⟩ := outer_made (L := L) hown; have hbel : Below w.heap.size w w1 := (Below.refl _ _).grown hgrow (Nat.le_refl _) (by intro k hk; cases hk); have HOH := hidden' HO; clear hnil hgrow hown HO)
    go_loopw [4] (fun i wr => ∃ (k : Nat) (cu : Array Value), k ≤ nt ∧ i = .int .i64 k ∧ Hid (Outer wr w.heap.size nt k L cu) ∧ Hid (Below w.heap.size w wr)) (fun i _ => nt - (intOf i).toNat)
    case atStart => exact ⟨0, cu0, Nat.zero_le _, rfl, HOH, hbel⟩
    case round =>
      obtain ⟨k, cu, hk, rfl, HO, HB⟩ := hrel
      by_cases hlt : k < nt
      · obtain ⟨bt, ot, hx, lt1, ct1⟩ := HT.out.row.at hlt
        obtain rfl : x = ⟨bt, ot, none⟩ := by simpa using hx
        have r1 := (HB.out.cell (p := ⟨bt, ot + k, none⟩) lt1).trans (ct1 k hlt)
        have EK := hidden' ((HT.out.each k hlt).kept HB.out)
        have l0 := HL.out k hlt
        have hsz := HB.out.size
        clear ct1 hx
        have hgl := lt_of_block HO.out.blk
        have hcuk : k < cu.size := by rw [HO.out.size]; exact hlt
        cases hA : A k with
        | none =>
          rw [hA] at r1 EK
          have hLC := EK.out.nil rfl
          have hnil := fun w' => Lib.run_eql_slice_nil (P := Try.prog) w' 41 5 none (L k) (C k) 0 0 Try.underlying41
          have HLC := hidden' hLC
          have HAA := hidden' hA
          clear hLC hA
          go_wp2
          go_roundw
          case rel =>
            refine ⟨k + 1, cu, by omega, by go_num, ⟨HO.out.blk, HO.out.size, ?_, fun j hj hn => HO.out.rest j (by omega) hn⟩, HB⟩
            refine below_succ HO.out.done ⟨none, 0, ?_⟩
            rw [HO.out.rest k (Nat.le_refl _) hlt, HLC.out.1]
          case measure => simp [intOf]; omega
        | some y =>
          rw [hA] at r1 EK
          have hnil := fun w' => Lib.run_eql_slice_nil (P := Try.prog) w' 41 5 (some y) (L k) (C k) 0 0 Try.underlying41
          have HAA := hidden' hA
          clear hA
          go_wp2_with (first | (at_make; refine wpList_make_full _ rfl (.tmp 26) (.tmp 26) 41 rfl w.heap.size 5 i5 (.int .u8 0) 1 Try.underlying41 hi5 hy0 hy1 _ _ _ _ (L k) rfl rfl (by simp) (by simp) (by rw [hy2]; omega) (by unfold maxLen; omega) (by omega) ?_; intro w2 hown2 hgrow2; obtain ⟨cur2, hcl2, hcur2⟩ := made5 hown2; have hb2 : Below wr.heap.size wr w2 := (Below.refl _ _).grown hgrow2 (Nat.le_refl _) (by intro k hk; cases hk); have HC2 := hidden' hcur2; have E2 := hidden' (EK.out.kept hb2); have r2 := (hb2.cell (p := ⟨bt, ot + k, none⟩) (by simp; omega)).trans r1; clear hnil hgrow2 hown2 hcur2) | (refine wpList_copy_splice rfl (.tmp 28) (.tmp 32) 41 41 rfl 5 Try.underlying41 size5 _ _ _ _ _ _ rfl rfl wr.heap.size 0 cur2 5 HC2.out (textCells (L k) (Z k)) (by simp [textCells_len]) (textCells_pos E2.out) (by simp [textCells_len, hcl2]) (textCells_one _ _) wr.heap.size wr hb2 (Nat.le_refl _) ?_; intro w3 HG3 hB3; have HK3 := hidden' ((hB3.block _ hgl).trans HO.out.blk); obtain ⟨⟨yv, yc⟩, yf⟩ := outer_cell HK3.out hcuk))
          go_roundw
          case rel => exact ⟨k + 1, _, by omega, by go_num, outer_put HO.out HK3.out hlt _ _, (HB.out.trans (hB3.mono hsz)).setCell (Nat.le_refl _) _⟩
          case measure => simp [intOf]; omega
      · obtain rfl : k = nt := by omega
        go_wp2
        go_ret
        obtain ⟨f, hf⟩ := Deep.choose_lt (α := Option Addr × Nat) (p := fun j y => cu[j]? = some (.slice y.1 (L j) y.2)) (n := k) (fun j hj => by obtain ⟨a, c, h⟩ := HO.out.done j hj; exact ⟨(a, c), h⟩)
        refine ⟨_, _, fun i => (f i).1, fun i => (f i).2, rfl, ⟨Nat.le_refl _, fun e => (by cases e), fun y hy i hi => ?_⟩, HB.out⟩
        obtain rfl : y = ⟨w.heap.size, 0, none⟩ := by simpa using hy.symm
        rw [Addr.add_lit, Nat.zero_add, ← hf i hi]
        simp [World.cell?, HO.out.blk]

end Go.Proofs.Qxb6614769a
