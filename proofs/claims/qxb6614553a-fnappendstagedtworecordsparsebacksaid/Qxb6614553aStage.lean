/-
  cloneBytes, binary.AppendUvarint, appendStaged by their contracts.
-/
import Derived.Test.Qxb6614553aBytes
import Derived.Test.Qxb6614553aPlain
import Derived.Laws.AppendOwnNone
import Derived.Laws.CopyOwn
namespace Go.Proofs.Qxb6614553a
open Go.RowKit

/-- The row that a 'make' has laid, as a block. -/
theorem made_block {base : Nat} {w : World} {g n : Nat} {cs : List Value} (h : w.ownsRow base 5 1 (.slice (some ⟨g, 0, none⟩) n n) n cs) :
    ∃ cur : List Value, cur.length = n ∧ w.heap[g]? = some (.cells cur.toArray 5 (0, 0)) := by
  rcases h.2 with ⟨hv, _⟩ | ⟨g', cap, cur, hv, _, hh, _, _, hcs, _⟩
  · simp at hv
  · simp at hv
    obtain ⟨rfl, rfl⟩ := hv
    exact ⟨cur.toList, by simpa using hcs, by simpa using hh⟩

/-- A row filled whole by a copy is owned. -/
theorem own_spliced {base : Nat} {w : World} {g n : Nat} {cur : List Value} {xs : List Int} (hl : cur.length = n) (hx : xs.length = n) (hb : base ≤ g) (hm : n ≤ maxLen)
    (h : w.heap[g]? = some (.cells (splice cur 0 (cellsOf xs)).toArray 5 (0, 0))) : Own base w (some ⟨g, 0, none⟩) n n xs := by
  have e : splice cur 0 (cellsOf xs) = cellsOf xs := by
    unfold splice
    rw [List.drop_of_length_le (by simp [cellsOf]; omega)]
    simp
  rw [e] at h
  exact ⟨hx, by simp [cellsOf, hx], .inr ⟨g, n, _, rfl, hb, h, Nat.le_refl _, hm, by simp [cellsOf, hx], List.take_of_length_le (by simp [cellsOf, hx])⟩⟩

theorem src_pos {w : World} {x : Addr} {n c : Nat} {xs : List Int} {g : Nat} (h : Src w (some x) n c xs) :
    0 < (cellsOf xs).length → (some (⟨g, 0, none⟩ : Addr)) = some ⟨g, 0, none⟩ ∧ ∃ ad, some x = some ad ∧ ∀ j v, (cellsOf xs)[j]? = some v → w.cell? (ad.add j) = some v :=
  fun _ => ⟨rfl, x, rfl, src_news h⟩

theorem size5 : (Try.prog.info? 5).map (·.size) = some 1 := by kernel_rfl

set_option maxHeartbeats 1600000 in
/-- cloneBytes: a fresh copy. -/
theorem clone_any (a : Option Addr) (n c : Nat) (xs : List Int) (w : World) (h : Src w a n c xs) (hb : n ≤ 281474976710656) (hlow : ∀ x, a = some x → 0 < n → x.block < w.heap.size) :
    Calls Try.prog 6 #[.slice a n c] w fun e w' => ∃ a' c', e = .returned (.slice a' n c') ∧ Own w.heap.size w' a' n c' xs ∧ Below w.heap.size w w' := by
  obtain ⟨i0, hi, hz0, hz1, hz2⟩ := info_parts info5
  have HS : Hid (Src w a n c xs) := h
  have HL : Hid (∀ x, a = some x → 0 < n → x.block < w.heap.size) := hlow
  clear h hlow
  cases a with
  | none =>
    obtain ⟨rfl, rfl⟩ := HS.out.nil rfl
    have hnil := fun w' => Lib.run_eql_slice_nil (P := Try.prog) w' 22 5 none 0 0 0 0 Try.underlying22
    have hxs : xs = [] := List.eq_nil_of_length_eq_zero HS.out.len
    go_enter Try.func6, Try.ntmps6
    go_wp2
    go_ret
    refine ⟨_, _, rfl, ⟨HS.out.len, ?_⟩, Below.refl _ _⟩
    subst hxs
    exact World.ownsRow_nil _ _ _ _
  | some x =>
    have hnil := fun w' => Lib.run_eql_slice_nil (P := Try.prog) w' 22 5 (some x) n c 0 0 Try.underlying22
    go_enter Try.func6, Try.ntmps6
    go_wp2_with (first | (at_make; refine wpList_make_full _ rfl (.tmp 7) (.tmp 7) 22 rfl w.heap.size 5 i0 (.int .u8 0) 1 Try.underlying22 hi hz0 hz1 _ _ _ _ n rfl rfl (by simp) (by simp) (by rw [hz2]; omega) (by unfold maxLen; omega) (Nat.le_refl _) ?_; intro w1 hown hgrow; obtain ⟨cur, hcl, hcur⟩ := made_block hown; have hbel : Below w.heap.size w w1 := (Below.refl _ _).grown hgrow (Nat.le_refl _) (by intro k hk; cases hk); have HC : Hid (w1.heap[w.heap.size]? = some (.cells cur.toArray 5 (0, 0))) := hcur; have H1 : Hid (Src w1 (some x) n c xs) := HS.out.kept hbel HL.out; clear hnil hgrow hown hcur) | (refine wpList_copy_splice rfl (.tmp 9) (.tmp 10) 22 22 rfl 5 Try.underlying22 size5 _ _ _ _ _ _ rfl rfl w.heap.size 0 cur 5 HC.out (cellsOf xs) (by simp [cellsOf, HS.out.len]) (src_pos H1.out) (by simp [cellsOf, HS.out.len, hcl]) (cells_one xs) w.heap.size w hbel (Nat.le_refl _) ?_; intro w2 HG2 hB2))
    go_ret
    exact ⟨_, _, rfl, own_spliced hcl HS.out.len (Nat.le_refl _) (by unfold maxLen; omega) HG2.out, hB2⟩

/-- What an append of one byte leaves. -/
theorem app_one {base : Nat} {w w1 : World} {a : Option Addr} {n c : Nat} {xs : List Int} {v' : Value} {u : Int} {o : Obj} (h : Own base w a n c xs) (hbs : base ≤ w.heap.size)
    (hown : w1.ownsRow base 5 1 v' (n + 1) (cellsOf xs ++ [.int .u8 u])) (hgrow : (w.alloc o).grownBy w1 (Value.slice a n c).ownBlock) :
    ∃ a' c', v' = .slice a' (n + 1) c' ∧ Own base w1 a' (n + 1) c' (xs ++ [u]) ∧ Below base w w1 := by
  obtain ⟨a', c', rfl⟩ := own_shape hown
  have hlow : ∀ k, (Value.slice a n c).ownBlock = some k → base ≤ k := fun k hk => (h.2.lt k hk).1
  refine ⟨a', c', rfl, ⟨by simp [h.1], ?_⟩, ?_⟩
  · rw [cells_app]; exact hown
  · exact ((Below.refl base w).alloc hbs o).grown hgrow (by simp; omega) hlow

theorem one_new (w : World) (u : Value) : ∀ j v, [u][j]? = some v → (w.alloc (.cells #[u] 5)).cell? ((⟨w.heap.size, 0, none⟩ : Addr).add j) = some v := by
  intro j v hj
  match j, hj with
  | 0, hj => simp at hj; subst hj; simp [Addr.add]

theorem one_byte (u : Int) : ∀ v ∈ [Value.int .u8 u], v.oneCell' = true := by
  intro v hv; simp at hv; subst hv; rfl

set_option maxRecDepth 100000 in
set_option maxHeartbeats 1600000 in
/-- binary.AppendUvarint, x < 2^21, onto what the call has made itself. -/
theorem uvarint_any (base : Nat) (a : Option Addr) (n c : Nat) (xs : List Int) (x : Nat) (w : World) (h : Own base w a n c xs) (hx : x < 2097152) (hb : n ≤ 8388608) (hbs : base ≤ w.heap.size) :
    Calls Try.prog 13 #[.slice a n c, .int .u64 x] w fun e w' => ∃ a' c', e = .returned (.slice a' (n + uvLen x) c') ∧ Own base w' a' (n + uvLen x) c' (xs ++ uv x) ∧ Below base w w' := by
  obtain ⟨i0, hi, hz0, hz1, hz2⟩ := info_parts info5
  have H : Hid (Own base w a n c xs) := h
  clear h
  go_enter Try.func13, Try.ntmps13
  go_wp2
  go_loopw [0, 1] (fun s y wr => ∃ (a' : Option Addr) (m c' k : Nat) (pre : List Int), s = .slice a' m c' ∧ y = .int .u64 k ∧ m ≤ n + 2 ∧ k < 2097152 ∧ Hid (m = n + pre.length) ∧ Hid (pre ++ uv k = uv x) ∧ Hid (Own base wr a' m c' (xs ++ pre)) ∧ Hid (Below base w wr)) (fun _ y _ => (intOf y).toNat)
  case atStart => exact ⟨a, n, c, x, [], rfl, rfl, by omega, hx, rfl, rfl, (by rw [List.append_nil]; exact H.out), Below.refl _ _⟩
  case round =>
    obtain ⟨a', m, c', k, pre, rfl, rfl, hm, hk, HM, HU, HO, HB⟩ := hrel
    have hown := HO.out.2
    have hbr : base ≤ wr.heap.size := Nat.le_trans hbs HB.out.size
    by_cases hlt : 128 ≤ k
    · go_wp2_with (at_builtin; refine wpList_append_own _ rfl (.tmp 7) (.tmp 11) 22 rfl base 5 i0 (.int .u8 0) 1 1 Try.underlying22 hi hz0 hz1 hz2 rfl (by decide) _ _ _ rfl (hown.alloc _) ⟨wr.heap.size, 0, none⟩ 1 1 [.int .u8 (bits .or .u8 ((k : Int) % 256) 128)] rfl rfl (one_new _ _) (one_byte _) (by unfold maxLen; omega) (by omega) (by simp; omega) ?_; intro v' w1 hown1 hgrow hn1; obtain ⟨a2, c2, hv, O2, B2⟩ := app_one HO.out hbr hown1 hgrow; subst hv; clear hn1 hgrow hown1)
      have hlen : pre.length + uvLen k = uvLen x := by rw [← uv_length k, ← uv_length x, ← HU.out, List.length_append]
      have h2 := uvLen_two hlt
      have h3 := (uvLen_bd x).2
      have hmm := HM.out
      go_roundw
      case rel =>
        refine ⟨a2, m + 1, c2, k / 128, pre ++ [((k % 128 + 128 : Nat) : Int)], rfl, by go_num, by omega, by omega, ?_, ?_, ?_, HB.out.trans B2⟩
        · show _ = _
          simp; omega
        · show _ = _
          rw [← HU.out, uv_step hlt hk]; simp
        · show Own _ _ _ _ _ _
          rw [or_top, List.append_assoc] at O2
          exact O2
      case measure => simp [intOf]; omega
    · go_wp2_with (at_builtin; refine wpList_append_own _ rfl (.tmp 15) (.tmp 18) 22 rfl base 5 i0 (.int .u8 0) 1 1 Try.underlying22 hi hz0 hz1 hz2 rfl (by decide) _ _ _ rfl (hown.alloc _) ⟨wr.heap.size, 0, none⟩ 1 1 [.int .u8 (k : Int)] rfl rfl (one_new _ _) (one_byte _) (by unfold maxLen; omega) (by omega) (by simp; omega) ?_; intro v' w1 hown1 hgrow hn1; obtain ⟨a2, c2, hv, O2, B2⟩ := app_one HO.out hbr hown1 hgrow; subst hv; clear hn1 hgrow hown1)
      have hlen : pre.length + uvLen k = uvLen x := by rw [← uv_length k, ← uv_length x, ← HU.out, List.length_append]
      have h1 := uvLen_one (show k < 128 by omega)
      have hmm := HM.out
      go_ret
      have e1 : m + 1 = n + uvLen x := by omega
      have e2 : xs ++ pre ++ [(k : Int)] = xs ++ uv x := by rw [← HU.out, uv_small (show k < 128 by omega), List.append_assoc]
      rw [e1, e2] at O2
      refine ⟨a2, c2, ?_, O2, HB.out.trans B2⟩
      rw [← e1]; rfl

/-- What an append of a whole slice leaves. -/
theorem app_many {base : Nat} {w w1 : World} {a : Option Addr} {n c m : Nat} {xs ys : List Int} {v' : Value} (h : Own base w a n c xs) (hy : ys.length = m) (hbs : base ≤ w.heap.size)
    (hown : w1.ownsRow base 5 1 v' (n + m) (cellsOf xs ++ cellsOf ys)) (hgrow : w.grownBy w1 (Value.slice a n c).ownBlock) :
    ∃ a' c', v' = .slice a' (n + m) c' ∧ Own base w1 a' (n + m) c' (xs ++ ys) ∧ Below base w w1 := by
  obtain ⟨a', c', rfl⟩ := own_shape hown
  have hlow : ∀ k, (Value.slice a n c).ownBlock = some k → base ≤ k := fun k hk => (h.2.lt k hk).1
  refine ⟨a', c', rfl, ⟨by simp [h.1, hy], ?_⟩, (Below.refl base w).grown hgrow hbs hlow⟩
  rw [cells_app]; exact hown

set_option maxRecDepth 100000 in
set_option maxHeartbeats 1600000 in
/-- appendStaged. -/
theorem stage11 (base : Nat) (a : Option Addr) (n c : Nat) (xs : List Int) (i : Int) (a1 : Option Addr) (m c1 : Nat) (ys : List Int) (w : World)
    (h : Own base w a n c xs) (h1 : Src w a1 m c1 ys) (hl1 : ∀ x, a1 = some x → 0 < m → x.block < base) (hm : m ≤ 1048576) (hb : n ≤ 4194304) (hbs : base ≤ w.heap.size) :
    Calls Try.prog 11 #[.slice a n c, .int .i64 i, .slice a1 m c1] w fun e w' => ∃ a' c', e = .returned (.slice a' (n + 1 + uvLen m + m) c') ∧ Own base w' a' (n + 1 + uvLen m + m) c' (xs ++ staged i ys) ∧ Below base w w' := by
  obtain ⟨i0, hi, hz0, hz1, hz2⟩ := info_parts info5
  have hu := uvLen_bd m
  have hown := h.2
  have H : Hid (Own base w a n c xs) := h
  have H1 : Hid (Src w a1 m c1 ys) := h1
  have HL : Hid (∀ x, a1 = some x → 0 < m → x.block < base) := hl1
  clear h h1 hl1
  go_enter Try.func11, Try.ntmps11
  go_wp2_with (at_builtin; refine wpList_append_own _ rfl (.tmp 7) (.tmp 10) 22 rfl base 5 i0 (.int .u8 0) 1 1 Try.underlying22 hi hz0 hz1 hz2 rfl (by decide) _ _ _ rfl (hown.alloc _) ⟨w.heap.size, 0, none⟩ 1 1 [.int .u8 (i % 256)] rfl rfl (one_new _ _) (one_byte _) (by unfold maxLen; omega) (by omega) (by simp; omega) ?_; intro v' w1 hown1 hgrow hn1; obtain ⟨a2, c2, hv, O2, B2⟩ := app_one H.out hbs hown1 hgrow; subst hv; clear hn1 hgrow hown1)
  have hs2 : base ≤ w1.heap.size := Nat.le_trans hbs B2.size
  refine (uvarint_any base a2 (n + 1) c2 _ m _ O2 (by omega) (by omega) hs2).mono ?_
  rintro e w2 ⟨a3, c3, rfl, O3, B3⟩
  have hs3 : base ≤ w2.heap.size := Nat.le_trans hs2 B3.size
  have S3 : Hid (Src w2 a1 m c1 ys) := H1.out.kept (B2.trans B3) HL.out
  have O3' : Hid (Own base w2 a3 (n + 1 + uvLen m) c3 (xs ++ [i % 256] ++ uv m)) := O3
  have hown3 := O3.2
  have BB3 : Hid (Below base w w2) := B2.trans B3
  clear O2 B2 B3 O3 hown H H1
  generalize hL : n + 1 + uvLen m = L at *
  have HLL : Hid (n + 1 + uvLen m = L) := hL
  have hLb : L ≤ 4194308 := by omega
  clear hL hu
  have efin : Hid (xs ++ [i % 256] ++ uv m ++ ys = xs ++ staged i ys) := by
    show _ = _
    unfold staged; rw [S3.out.len]; simp
  cases a1 with
  | none =>
    obtain ⟨rfl, rfl⟩ := S3.out.nil rfl
    go_wp2_with (at_builtin; refine wpList_append_own_none rfl (.tmp 16) (.tmp 17) 22 rfl base 5 i0 1 Try.underlying22 hi _ _ _ rfl hown3 rfl ?_)
    go_ret
    have hys : ys = [] := List.eq_nil_of_length_eq_zero S3.out.len
    rw [HLL.out]
    refine ⟨a3, c3, rfl, ?_, BB3.out⟩
    rw [← efin.out, hys, List.append_nil]
    exact O3'.out
  | some x =>
    go_wp2_with (at_builtin; refine wpList_append_own _ rfl (.tmp 16) (.tmp 17) 22 rfl base 5 i0 (.int .u8 0) 1 1 Try.underlying22 hi hz0 hz1 hz2 rfl (by decide) _ _ _ rfl hown3 x m c1 (cellsOf ys) rfl (by simp [cellsOf, S3.out.len]) (src_news S3.out) (cells_one ys) (by unfold maxLen; omega) (by omega) hs3 ?_; intro v' w3 hown4 hgrow hn1; obtain ⟨a4, c4, hv, O4, B4⟩ := app_many O3'.out S3.out.len hs3 hown4 hgrow; subst hv; clear hn1 hgrow hown4)
    go_ret
    rw [HLL.out]
    refine ⟨a4, c4, rfl, ?_, BB3.out.trans B4⟩
    rw [← efin.out]
    exact O4

theorem stage_any (base : Nat) (a : Option Addr) (n c : Nat) (xs : List Int) (i : Int) (a1 : Option Addr) (m c1 : Nat) (ys : List Int) (w : World)
    (h : Own base w a n c xs) (h1 : Src w a1 m c1 ys) (hl1 : ∀ x, a1 = some x → 0 < m → x.block < base) (hm : m ≤ 1048576) (hb : n ≤ 4194304) (hbs : base ≤ w.heap.size) :
    Calls Try.prog 7 #[.slice a n c, .int .i64 i, .slice a1 m c1] w fun e w' => ∃ a' c', e = .returned (.slice a' (n + 1 + uvLen m + m) c') ∧ Own base w' a' (n + 1 + uvLen m + m) c' (xs ++ staged i ys) ∧ Below base w w' := by
  have H : Hid (Own base w a n c xs) := h
  have H1 : Hid (Src w a1 m c1 ys) := h1
  have HL : Hid (∀ x, a1 = some x → 0 < m → x.block < base) := hl1
  clear h h1 hl1
  go_enter Try.func7, Try.ntmps7
  go_wp2_with fail
  refine (stage11 base a n c xs i a1 m c1 ys _ H.out H1.out HL.out hm hb hbs).mono ?_
  rintro e w1 ⟨a', c', rfl, O, B⟩
  go_wp2
  go_ret
  exact ⟨a', c', rfl, O, B⟩

end Go.Proofs.Qxb6614553a
