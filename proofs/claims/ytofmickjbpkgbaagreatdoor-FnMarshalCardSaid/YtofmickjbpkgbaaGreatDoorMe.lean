import Derived.Test.YtofmickjbpkgbaaGreatDoorMd
import Derived.LaidEql
set_option maxRecDepth 100000
namespace Go.Proofs.YtofmickjbpkgbaaGreatDoor
section
open Go.RowKit

/-- The string of the bytes l. -/
def bstr (l : List UInt8) : ByteArray := ⟨l.toArray⟩

theorem bstr_size (l : List UInt8) : (bstr l).size = l.length := by simp [bstr, ByteArray.size]
theorem bstr_list (l : List UInt8) : (bstr l).data.toList = l := by simp [bstr]
theorem bstr_at (l : List UInt8) (j : Nat) (h : j < (bstr l).size) : (bstr l)[j]'h = l[j]'(by rwa [bstr_size] at h) := rfl
theorem bstr_ext {a b : ByteArray} (h : a.data.toList = b.data.toList) : a = b := by
  obtain ⟨⟨a⟩⟩ := a
  obtain ⟨⟨b⟩⟩ := b
  simp at h
  rw [h]
theorem bstr_extract (l : List UInt8) (a b : Nat) : (bstr l).extract a b = bstr ((l.drop a).take (b - a)) := by
  apply bstr_ext
  rw [Lib.extract_data, bstr_list, bstr_list]
theorem bstr_append (a b : List UInt8) : bstr a ++ bstr b = bstr (a ++ b) := by
  apply bstr_ext
  simp [bstr]

theorem Tryz.info166 : (Tryz.prog.info? 166).map (·.comparable) = some true := by kernel_rfl
theorem Tryz.size168 : (Tryz.prog.info? 168).map (·.size) = some 1 := by kernel_rfl

theorem eql_err (a : Addr) (w : World) : (binOp .eql 51 (.iface 166 (.pointer (some a))) (.iface 166 (.pointer (some a)))).run Tryz.prog w = .ok (.bool true) w := by
  obtain ⟨i, h1, h2⟩ := Option.map_eq_some_iff.1 Tryz.info166
  obtain ⟨j, h3, _⟩ := info_of_size Tryz.size168
  exact run_eql_iface_ptr_same w a Tryz.underlying51 Tryz.underlying166 h1 h2 h3

theorem neq_err (a : Addr) (w : World) : (binOp .neq 51 (.iface 166 (.pointer (some a))) (.iface 166 (.pointer (some a)))).run Tryz.prog w = .ok (.bool false) w := by
  obtain ⟨i, h1, h2⟩ := Option.map_eq_some_iff.1 Tryz.info166
  obtain ⟨j, h3, _⟩ := info_of_size Tryz.size168
  simp only [binOp]
  simp [Op.equal, Op.maxDepth, run_equalIn_iface_ptr_same w 9998 a Tryz.underlying51 Tryz.underlying166 h1 h2 h3]

/-- Block b is a strings.Reader of the bytes l, i of them read. -/
def Rd (w : World) (b : Nat) (l : List UInt8) (i : Nat) : Prop := ∃ p : Int, w.heap[b]? = some (.cells #[.string (bstr l), .int .i64 i, .int .i64 p] 284 (0, 0))

theorem newReader_any (l : List UInt8) (w : World) : Calls Tryz.prog 158 #[.string (bstr l)] w fun e w' => e = .returned (.pointer (some ⟨w.heap.size, 0, none⟩)) ∧ Rd w' w.heap.size l 0 ∧ Kept [] w w' := by
  have h := hid (heap_alloc_new w (.cells #[.string (bstr l), .int .i64 0, .int .i64 (-1)] 284))
  go_enter Tryz.func158, Tryz.ntmps158
  go_wp2
  go_ret
  exact ⟨rfl, ⟨_, h.out⟩, (Kept.refl _ _).alloc _⟩

theorem readByte_more (b i : Nat) (l : List UInt8) (w : World) (hi : i < l.length) (hl : l.length ≤ 1000000) (h : Rd w b l i) :
    Calls Tryz.prog 364 #[.pointer (some ⟨b, 0, none⟩)] w fun e w' => e = .returned (.tuple #[.int .u8 ((l[i]'hi).toNat : Nat), .nilIface]) ∧ Rd w' b l (i + 1) ∧ Kept [b] w w' := by
  obtain ⟨p, hb⟩ := h
  have hsz := bstr_size l
  have hat : ((bstr l)[i]'(by omega)).toNat = (l[i]'hi).toNat := by rw [bstr_at]
  obtain ⟨c, hc⟩ : ∃ c, c = (l[i]'hi).toNat := ⟨_, rfl⟩
  have hc256 : c < 256 := by rw [hc]; exact UInt8.toNat_lt _
  rw [← hc] at hat ⊢
  have c0 : w.cell? ⟨b, 0, none⟩ = some (.string (bstr l)) := (cell_of_heap hb 0).trans rfl
  have c1 : w.cell? ⟨b, 1, none⟩ = some (.int .i64 i) := (cell_of_heap hb 1).trans rfl
  have c2 : w.cell? ⟨b, 2, none⟩ = some (.int .i64 p) := (cell_of_heap hb 2).trans rfl
  have f1 := frozen_of_heap hb 1
  have f2 := frozen_of_heap hb 2
  have h1 := heap_setCell_self hb 2 (.int .i64 (-1))
  have h2 := hid (heap_setCell_self h1 1 (.int .i64 (i + 1 : Nat)))
  have hk := hid (((Kept.refl [b] w).setCell ⟨b, 2, none⟩ (.int .i64 (-1)) (.inl (by simp))).setCell ⟨b, 1, none⟩ (.int .i64 (i + 1 : Nat)) (.inl (by simp)))
  clear hb h1 hc
  go_enter Tryz.func364, Tryz.ntmps364
  go_wp2
  go_quiet (fail)
  go_wp2
  go_quiet (fail)
  go_wp2
  go_ret2
  exact ⟨rfl, ⟨_, h2.out⟩, hk.out.drewN _⟩

theorem readByte_eof (b i : Nat) (a : Addr) (l : List UInt8) (w : World) (hi : i = l.length) (hl : l.length ≤ 1000000) (h : Rd w b l i) (hE : w.cell? ⟨14, 0, none⟩ = some (.iface 166 (.pointer (some a)))) (hb14 : b ≠ 14) :
    Calls Tryz.prog 364 #[.pointer (some ⟨b, 0, none⟩)] w fun e w' => e = .returned (.tuple #[.int .u8 0, .iface 166 (.pointer (some a))]) ∧ Rd w' b l i ∧ Kept [b] w w' := by
  obtain ⟨p, hb⟩ := h
  have hsz := bstr_size l
  have c0 : w.cell? ⟨b, 0, none⟩ = some (.string (bstr l)) := (cell_of_heap hb 0).trans rfl
  have c1 : w.cell? ⟨b, 1, none⟩ = some (.int .i64 i) := (cell_of_heap hb 1).trans rfl
  have c2 : w.cell? ⟨b, 2, none⟩ = some (.int .i64 p) := (cell_of_heap hb 2).trans rfl
  have f2 := frozen_of_heap hb 2
  have h1 := hid (heap_setCell_self hb 2 (.int .i64 (-1)))
  have hk := hid ((Kept.refl [b] w).setCell ⟨b, 2, none⟩ (.int .i64 (-1)) (.inl (by simp)))
  have hE2 : (w.setCell ⟨b, 2, none⟩ (.int .i64 (-1))).cell? ⟨14, 0, none⟩ = some (.iface 166 (.pointer (some a))) := (cell_set_ne fun h => hb14 (congrArg Addr.block h)).trans hE
  clear hb hE
  go_enter Tryz.func364, Tryz.ntmps364
  go_wp2
  go_quiet (fail)
  go_wp2
  go_quiet (fail)
  go_wp2
  go_ret2
  exact ⟨rfl, ⟨_, h1.out⟩, (hk.out.drewN _).drewN _⟩

theorem unreadByte_any (b i : Nat) (l : List UInt8) (w : World) (hi : i < l.length) (hl : l.length ≤ 1000000) (h : Rd w b l (i + 1)) :
    Calls Tryz.prog 365 #[.pointer (some ⟨b, 0, none⟩)] w fun e w' => e = .returned .nilIface ∧ Rd w' b l i ∧ Kept [b] w w' := by
  obtain ⟨p, hb⟩ := h
  have c1 : w.cell? ⟨b, 1, none⟩ = some (.int .i64 (i + 1 : Nat)) := (cell_of_heap hb 1).trans rfl
  have c2 : w.cell? ⟨b, 2, none⟩ = some (.int .i64 p) := (cell_of_heap hb 2).trans rfl
  have f1 := frozen_of_heap hb 1
  have f2 := frozen_of_heap hb 2
  have h1 := heap_setCell_self hb 2 (.int .i64 (-1))
  have h2 := hid (heap_setCell_self h1 1 (.int .i64 (i : Nat)))
  have hk := hid (((Kept.refl [b] w).setCell ⟨b, 2, none⟩ (.int .i64 (-1)) (.inl (by simp))).setCell ⟨b, 1, none⟩ (.int .i64 (i : Nat)) (.inl (by simp)))
  clear hb h1
  go_enter Tryz.func365, Tryz.ntmps365
  go_wp2
  go_ret
  exact ⟨rfl, ⟨_, h2.out⟩, hk.out⟩


/-- scanSign at a figure: nothing is read. -/
theorem scanSign_any (b : Nat) (l : List UInt8) (w : World) (h0 : 0 < l.length) (hl : l.length ≤ 1000000) (hd : IsDig l) (h : Rd w b l 0) :
    Calls Tryz.prog 237 #[.iface 233 (.pointer (some ⟨b, 0, none⟩))] w fun e w' => e = .returned (.tuple #[.bool false, .nilIface]) ∧ Rd w' b l 0 ∧ Kept [b] w w' := by
  have hdig := hd (l[0]'h0) (List.getElem_mem h0)
  have H1 := hid (readByte_more b 0 l w h0 hl h)
  obtain ⟨c, hc⟩ : ∃ c, c = (l[0]'h0).toNat := ⟨_, rfl⟩
  rw [← hc] at hdig H1
  clear hc hd h
  go_enter Tryz.func237, Tryz.ntmps237
  go_wp2_with fail
  refine (H1.out).mono ?_
  rintro e w1 ⟨rfl, h2, hk1⟩
  have H2 := hid (unreadByte_any b 0 l w1 h0 hl h2)
  have HK1 := hid hk1
  clear h2 hk1
  go_wp2_with fail
  all_goals
    refine (H2.out).mono ?_
    rintro e w2 ⟨rfl, h3, hk2⟩
    have H3 := hid h3
    have HK2 := hid (HK1.out.trans hk2 (ds := [b]) (by simp) (by simp))
    clear h3 hk2
    go_wp2
    go_ret2
    exact ⟨rfl, H3.out, HK2.out⟩
end

section
open Go.RowKit

set_option maxHeartbeats 4000000 in
theorem pow_ten_lit (w : World) : ∀ n, n ∈ List.range 19 → Calls Tryz.prog 279 #[.int .u64 10, .int .i64 (n : Nat)] w fun e w' => e = .returned (.int .u64 (10 ^ n : Nat)) ∧ w' = w := by
  have q0 : bits .and .i64 0 1 = 0 := by kernel_rfl
  have q1 : bits .and .i64 1 1 = 1 := by kernel_rfl
  have q2 : bits .and .i64 2 1 = 0 := by kernel_rfl
  have q3 : bits .and .i64 3 1 = 1 := by kernel_rfl
  have q4 : bits .and .i64 4 1 = 0 := by kernel_rfl
  have q5 : bits .and .i64 5 1 = 1 := by kernel_rfl
  have q6 : bits .and .i64 6 1 = 0 := by kernel_rfl
  have q7 : bits .and .i64 7 1 = 1 := by kernel_rfl
  have q8 : bits .and .i64 8 1 = 0 := by kernel_rfl
  have q9 : bits .and .i64 9 1 = 1 := by kernel_rfl
  have q10 : bits .and .i64 10 1 = 0 := by kernel_rfl
  have q11 : bits .and .i64 11 1 = 1 := by kernel_rfl
  have q12 : bits .and .i64 12 1 = 0 := by kernel_rfl
  have q13 : bits .and .i64 13 1 = 1 := by kernel_rfl
  have q14 : bits .and .i64 14 1 = 0 := by kernel_rfl
  have q15 : bits .and .i64 15 1 = 1 := by kernel_rfl
  have q16 : bits .and .i64 16 1 = 0 := by kernel_rfl
  have q17 : bits .and .i64 17 1 = 1 := by kernel_rfl
  have q18 : bits .and .i64 18 1 = 0 := by kernel_rfl
  have w1 : IntKind.u64.wrap 100000000000000000000000000000000 = 9632337040368467968 := by decide
  intro n hn
  simp only [List.range, List.range.loop, List.mem_cons, List.mem_nil_iff, or_false] at hn
  rcases hn with rfl | rfl | rfl | rfl | rfl | rfl | rfl | rfl | rfl | rfl | rfl | rfl | rfl | rfl | rfl | rfl | rfl | rfl | rfl
  · go_enter Tryz.func279, Tryz.ntmps279
    go_wp2
    go_rounds 1
    go_ret
    exact ⟨rfl, rfl⟩
  · go_enter Tryz.func279, Tryz.ntmps279
    go_wp2
    go_rounds 2
    go_ret
    exact ⟨rfl, rfl⟩
  · go_enter Tryz.func279, Tryz.ntmps279
    go_wp2
    go_rounds 3
    go_ret
    exact ⟨rfl, rfl⟩
  · go_enter Tryz.func279, Tryz.ntmps279
    go_wp2
    go_rounds 3
    go_ret
    exact ⟨rfl, rfl⟩
  · go_enter Tryz.func279, Tryz.ntmps279
    go_wp2
    go_rounds 4
    go_ret
    exact ⟨rfl, rfl⟩
  · go_enter Tryz.func279, Tryz.ntmps279
    go_wp2
    go_rounds 4
    go_ret
    exact ⟨rfl, rfl⟩
  · go_enter Tryz.func279, Tryz.ntmps279
    go_wp2
    go_rounds 4
    go_ret
    exact ⟨rfl, rfl⟩
  · go_enter Tryz.func279, Tryz.ntmps279
    go_wp2
    go_rounds 4
    go_ret
    exact ⟨rfl, rfl⟩
  · go_enter Tryz.func279, Tryz.ntmps279
    go_wp2
    go_rounds 5
    go_ret
    exact ⟨rfl, rfl⟩
  · go_enter Tryz.func279, Tryz.ntmps279
    go_wp2
    go_rounds 5
    go_ret
    exact ⟨rfl, rfl⟩
  · go_enter Tryz.func279, Tryz.ntmps279
    go_wp2
    go_rounds 5
    go_ret
    exact ⟨rfl, rfl⟩
  · go_enter Tryz.func279, Tryz.ntmps279
    go_wp2
    go_rounds 5
    go_ret
    exact ⟨rfl, rfl⟩
  · go_enter Tryz.func279, Tryz.ntmps279
    go_wp2
    go_rounds 5
    go_ret
    exact ⟨rfl, rfl⟩
  · go_enter Tryz.func279, Tryz.ntmps279
    go_wp2
    go_rounds 5
    go_ret
    exact ⟨rfl, rfl⟩
  · go_enter Tryz.func279, Tryz.ntmps279
    go_wp2
    go_rounds 5
    go_ret
    exact ⟨rfl, rfl⟩
  · go_enter Tryz.func279, Tryz.ntmps279
    go_wp2
    go_rounds 5
    go_ret
    exact ⟨rfl, rfl⟩
  · go_enter Tryz.func279, Tryz.ntmps279
    go_wp2
    go_rounds 6
    go_ret
    exact ⟨rfl, rfl⟩
  · go_enter Tryz.func279, Tryz.ntmps279
    go_wp2
    go_rounds 6
    go_ret
    exact ⟨rfl, rfl⟩
  · go_enter Tryz.func279, Tryz.ntmps279
    go_wp2
    go_rounds 6
    go_ret
    exact ⟨rfl, rfl⟩

theorem pow_ten (n : Nat) (hn : n ≤ 18) (w : World) : Calls Tryz.prog 279 #[.int .u64 10, .int .i64 (n : Nat)] w fun e w' => e = .returned (.int .u64 (10 ^ n : Nat)) ∧ w' = w :=
  pow_ten_lit w n (List.mem_range.2 (by omega))
end

section
open Go.RowKit

/-- A number of which 0 is the nil slice. -/
def NumZ (B : Nat) (w : World) (v : Value) (V : Nat) : Prop := NumV B w v V ∧ (V = 0 → v = .slice none 0 0)

/-- nat.mulAddWW(x, y, r) in place of x. -/
theorem mulAddWW_num (B V y r L : Nat) (v : Value) (w : World) (hv : NumZ B w v V) (hL : L ≤ 800000) (hV : V < 2 ^ (64 * L)) (hy : y < 18446744073709551616) (hy0 : y ≠ 0) (hr : r < 18446744073709551616) (hB : B ≤ w.heap.size) :
    Calls Tryz.prog 278 #[v, v, .int .u64 y, .int .u64 r] w fun e w' => ∃ v', e = .returned v' ∧ NumZ B w' v' (V * y + r) ∧ Kept v.ownBlock.toList w w' ∧ (∀ k, v'.ownBlock = some k → v.ownBlock = some k ∨ w.heap.size ≤ k) := by
  obtain ⟨hv, hz⟩ := hv
  by_cases h0 : V = 0
  · obtain rfl := hz h0
    subst h0
    have H := hid (setWord_nil r w hr)
    clear hv hz
    go_enter Tryz.func278, Tryz.ntmps278
    go_wp2_with fail
    refine (H.out).mono ?_
    rintro e w1 ⟨v', rfl, h1, h2, h3, h4⟩
    have H1 := hid h1
    have H3 := hid h3
    have H4 := hid h4
    clear h1 h3 h4
    go_wp2
    go_ret
    refine ⟨v', rfl, ⟨by simpa using H1.out.mono hB, fun h => H4.out (by omega)⟩, h2, fun k hk => .inr ?_⟩
    exact H1.out.own_ge hk
  · obtain ⟨n, x, hn, h1, h2, h3, h4⟩ := hv.words hV
    have hn : n ≤ 800000 := by omega
    have hn0 : n ≠ 0 := fun h => by subst h; exact h0 h4.symm
    rcases h1 with ⟨_, h⟩ | ⟨g, c, rfl, h5, h6, h7, h8⟩
    · exact absurd h hn0
    · refine (mulAddWW_pos g n c y r _ x B w (by omega) hn h6 h7 h8 h2 hy hy0 hr (.inr ⟨g, n, c, _, rfl, h7, h5, h8.congr (Nat.zero_le _) (fun _ _ => rfl)⟩) hB).mono ?_
      rintro e w' ⟨v', rfl, h9, h10, h11⟩
      rw [h4] at h9
      refine ⟨v', rfl, ⟨h9, fun h => absurd h ?_⟩, h10, h11⟩
      have := Nat.mul_pos (Nat.pos_of_ne_zero h0) (Nat.pos_of_ne_zero hy0)
      omega

theorem results_tmp4 {fn : Func} {a b c d : Tmp} (h : fn.results = #[.tmp a, .tmp b, .tmp c, .tmp d]) (tmps : Array Value) (P : Program) (w : World) :
    (results fn tmps).run P w = .ok (.tuple #[tmps.getD a undef, tmps.getD b undef, tmps.getD c undef, tmps.getD d undef]) w := by
  simp [results, h]

theorem dval_lt (l : List UInt8) (h : IsDig l) : dval l < 10 ^ l.length := by
  have : ∀ n (l : List UInt8), l.length = n → IsDig l → dval l < 10 ^ l.length := by
    intro n
    induction n with
    | zero =>
      intro l hl _
      obtain rfl := List.length_eq_zero_iff.1 hl
      decide
    | succ n ih =>
      intro b hb hd
      obtain ⟨b', c, rfl⟩ : ∃ b' c, b = b' ++ [c] := ⟨b.dropLast, b.getLast (by intro h; subst h; simp at hb), (List.dropLast_concat_getLast _).symm⟩
      simp at hb
      have h1 := ih b' hb fun x hx => hd x (by simp [hx])
      have h2 := hd c (by simp)
      rw [dval_snoc, List.length_append, List.length_singleton, Nat.pow_succ]
      omega
  exact this _ l rfl h

/-- The figures from place a to place k. -/
def chunk (l : List UInt8) (a k : Nat) : List UInt8 := (l.take k).drop a

theorem chunk_succ (l : List UInt8) (a k : Nat) (ha : a ≤ k) (hk : k < l.length) : chunk l a (k + 1) = chunk l a k ++ [l[k]] := by
  unfold chunk
  rw [List.take_succ_eq_append_getElem hk, List.drop_append_of_le_length (by simp; omega)]

theorem chunk_self (l : List UInt8) (a : Nat) : chunk l a a = [] := by
  unfold chunk
  apply List.drop_eq_nil_of_le
  simp; omega

theorem dval_chunk (l : List UInt8) (a k : Nat) (ha : a ≤ k) (hk : k ≤ l.length) : dval (l.take k) = dval (l.take a) * 10 ^ (k - a) + dval (chunk l a k) := by
  have h1 : l.take a ++ chunk l a k = l.take k := by
    unfold chunk
    have := List.take_append_drop a (l.take k)
    rw [List.take_take, Nat.min_eq_left ha] at this
    exact this
  have h2 : (chunk l a k).length = k - a := by simp [chunk]; omega
  have := dval_append (l.take a) _ (chunk l a k) rfl
  rwa [h2, h1] at this

theorem chunk_lt (l : List UInt8) (h : IsDig l) (a k : Nat) (ha : a ≤ k) (hk : k ≤ l.length) : dval (chunk l a k) < 10 ^ (k - a) := by
  have h2 : (chunk l a k).length = k - a := by simp [chunk]; omega
  have := dval_lt (chunk l a k) ((h.take k).drop a)
  rwa [h2] at this

theorem pow10_le (n m : Nat) (h : n ≤ m) : 10 ^ n ≤ 10 ^ m := Nat.pow_le_pow_right (by omega) h

theorem dval_take_lt (l : List UInt8) (h : IsDig l) (k : Nat) : dval (l.take k) < 2 ^ (64 * k) := by
  have h1 := dval_lt (l.take k) (h.take k)
  have h2 : (l.take k).length ≤ k := by simp; omega
  have h3 := pow10_le _ _ h2
  have h4 : (10 : Nat) ^ k ≤ 16 ^ k := Nat.pow_le_pow_left (by omega) _
  have h5 : (16 : Nat) ^ k = 2 ^ (4 * k) := by rw [show (16 : Nat) = 2 ^ 4 from rfl, ← Nat.pow_mul]
  have h6 : (2 : Nat) ^ (4 * k) ≤ 2 ^ (64 * k) := Nat.pow_le_pow_right (by omega) (by omega)
  omega

/-- ReadByte wherever the reader stands. -/
theorem readByte_next (b m : Nat) (a : Addr) (l : List UInt8) (w : World) (hm : m ≤ l.length) (hl : l.length ≤ 1000000) (h : Rd w b l m) (hE : w.cell? ⟨14, 0, none⟩ = some (.iface 166 (.pointer (some a)))) (hb14 : b ≠ 14) :
    Calls Tryz.prog 364 #[.pointer (some ⟨b, 0, none⟩)] w fun e w' => ∃ (c : Nat) (err : Value), e = .returned (.tuple #[.int .u8 c, err]) ∧ Kept [b] w w' ∧
      ((m < l.length ∧ err = .nilIface ∧ (∀ h : m < l.length, c = (l[m]'h).toNat) ∧ Rd w' b l (m + 1)) ∨ (m = l.length ∧ err = .iface 166 (.pointer (some a)) ∧ Rd w' b l l.length)) := by
  rcases Nat.lt_or_ge m l.length with h1 | h1
  · refine (readByte_more b m l w h1 hl h).mono ?_
    rintro e w' ⟨rfl, h2, h3⟩
    exact ⟨_, _, rfl, h3, .inl ⟨h1, rfl, fun _ => rfl, h2⟩⟩
  · obtain rfl : m = l.length := by omega
    refine (readByte_eof b _ a l w rfl hl h hE hb14).mono ?_
    rintro e w' ⟨rfl, h2, h3⟩
    exact ⟨0, _, rfl, h3, .inr ⟨rfl, rfl, h2⟩⟩

/-- What nat.scan of figures alone leaves. -/
def ScanPost (b n : Nat) (l : List UInt8) (w : World) (e : Ending) (w' : World) : Prop :=
  ∃ v', e = .returned (.tuple #[v', .int .i64 10, .int .i64 n, .nilIface]) ∧ NumV w.heap.size w' v' (dval l) ∧ Rd w' b l n ∧ Kept [b] w w'

set_option maxHeartbeats 4000000 in
theorem scan_any (b n : Nat) (a : Addr) (l : List UInt8) (w : World) (hn : n = l.length) (h0 : 0 < l.length) (hl : l.length ≤ 100000) (hd : IsDig l) (h : Rd w b l 0) (hE : w.cell? ⟨14, 0, none⟩ = some (.iface 166 (.pointer (some a)))) (hb14 : b ≠ 14) :
    Calls Tryz.prog 238 #[.slice none 0 0, .iface 233 (.pointer (some ⟨b, 0, none⟩)), .int .i64 10, .bool false] w (ScanPost b n l w) := by
  have hbw : b < w.heap.size := by obtain ⟨p, hp⟩ := h; exact lt_of_heap hp
  have q1 : ∀ w, (binOp .eql 51 (.iface 166 (.pointer (some a))) (.iface 166 (.pointer (some a)))).run Tryz.prog w = .ok (.bool true) w := eql_err a
  have hdig0 := hd (l[0]'h0) (List.getElem_mem h0)
  have H1 := hid (readByte_more b 0 l w h0 (by omega) h)
  have HD := hid hd
  have HE := hid hE
  clear hd hE h
  have h14 := World.block_lt_of_cell? w _ HE.out
  have HN := hid hn
  rw [← hn] at h0 hl
  obtain ⟨c0, hc0⟩ : ∃ c, c = (l[0]'(by omega)).toNat := ⟨_, rfl⟩
  rw [← hc0] at H1 hdig0
  have HC0 := hid hc0
  clear hc0 hn
  go_enter Tryz.func238, Tryz.ntmps238
  go_wp2_with fail
  refine (H1.out).mono ?_
  rintro e w1 ⟨rfl, hrd, hk1⟩
  have HRD := hid hrd
  have HK1 := hid hk1
  clear hrd hk1 H1
  go_wp2_with fail
  refine (maxPow_ten _).mono ?_
  rintro e w2 ⟨rfl, rfl⟩
  go_wp2
  have hbk : Hid (∀ v V, NumV w.heap.size w2 v V → v.ownBlock ≠ some b) := fun v V hv h => by
    have := hv.own_ge h
    omega
  go_loopw [0, 3, 10, 11, 13, 14, 15, 20, 21, 22] (fun z t3 count err prev t14 ch di i dp wr => ∃ (k q j d c : Nat) (p : Int), t3 = .bool false ∧ count = .int .i64 k ∧ prev = .int .i32 p ∧ t14 = .bool false ∧ ch = .int .u8 c ∧ di = .int .u64 d ∧ i = .int .i64 j ∧ dp = .int .i64 (-1) ∧
      (p = 46 ∨ p = 48) ∧ j < 19 ∧ Hid (k = 19 * q + j) ∧ Hid (d = dval (chunk l (19 * q) k)) ∧ Hid (NumZ w.heap.size wr z (dval (l.take (19 * q)))) ∧ Hid (Kept [b] w wr) ∧
      ((k < n ∧ err = .nilIface ∧ Hid (∀ h : k < l.length, c = (l[k]'h).toNat) ∧ Hid (Rd wr b l (k + 1))) ∨ (k = n ∧ err = .iface 166 (.pointer (some a)) ∧ Hid (Rd wr b l n)))) (fun _ _ count _ _ _ _ _ _ _ _ => n - (intOf count).toNat)
  case atStart =>
    exact ⟨0, 0, 0, 0, c0, 46, rfl, rfl, rfl, rfl, rfl, rfl, rfl, rfl, .inl rfl, by omega, rfl, by rw [chunk_self]; rfl, ⟨NumV.nil _ _, fun _ => rfl⟩, HK1.out, .inl ⟨h0, rfl, fun _ => HC0.out, HRD⟩⟩
  case round =>
    obtain ⟨k, q, j, d, c, p, rfl, rfl, rfl, rfl, rfl, rfl, rfl, rfl, hp, hj, HKQ, HDC, HZ, HK, hcase⟩ := hrel
    rcases hcase with ⟨hkn, rfl, HC, HR⟩ | ⟨rfl, rfl, HR⟩
    · have hkl : k < l.length := by rw [← HN.out]; exact hkn
      have hc : c = (l[k]'hkl).toNat := HC.out hkl
      have hcd := HD.out (l[k]'hkl) (List.getElem_mem hkl)
      rw [← hc] at hcd
      have hdb : d < 1000000000000000000 := by
        have hkq := HKQ.out
        have h1 := chunk_lt l HD.out (19 * q) k (by omega) (by omega)
        rw [← HDC.out, show k - 19 * q = j by omega] at h1
        have h2 := pow10_le j 18 (by omega)
        have h3 : (10 : Nat) ^ 18 = 1000000000000000000 := by decide
        omega
      have HDN : Hid (d * 10 + (c - 48) = dval (chunk l (19 * q) (k + 1))) := by
        unfold Hid
        rw [chunk_succ l (19 * q) k (by have := HKQ.out; omega) hkl, dval_snoc, ← hc, ← HDC.out]
      have HE2 := hid (HK.out.cellOf HE.out (by simpa using hb14.symm))
      obtain ⟨c', hc'⟩ : ∃ c', c' = c - 48 := ⟨_, rfl⟩
      obtain rfl : c = c' + 48 := by omega
      rw [show c' + 48 - 48 = c' by omega] at HDN
      clear hc hc'
      have hc9 : c' ≤ 9 := by omega
      clear hcd
      have hbz : u0.ownBlock ≠ some b := fun h => by
        have := HZ.out.1.own_ge h
        omega
      have hszw := HK.out.size
      by_cases hj18 : j = 18
      · subst hj18
        go_wp2_with fail
        refine (mulAddWW_num w.heap.size (dval (l.take (19 * q))) 10000000000000000000 (d * 10 + c') (19 * q) u0 wr HZ.out (by have := HKQ.out; omega) (dval_take_lt l HD.out _) (by omega) (by omega) (by omega) hszw).mono ?_
        rintro e w3 ⟨v', rfl, hz3, hk3, ho3⟩
        have HZ3 := hid hz3
        have HK3 := hid (HK.out.trans hk3 (ds := [b]) (by simp) (fun y hy => .inr (HZ.out.1.own_ge (by simpa using hy))))
        have HR3 : Hid (Rd w3 b l (k + 1)) := by
          obtain ⟨p', hp'⟩ := HR.out
          exact ⟨p', hk3.heap hp' (by simpa using hbz)⟩
        have HE3 := hid (hk3.cellOf HE2.out (by
          simp
          intro h
          have := HZ.out.1.own_ge h
          omega))
        clear hz3 hk3 ho3
        go_wp2_with fail
        refine (readByte_next b (k + 1) a l w3 (by have := HN.out; omega) (by have := HN.out; omega) HR3.out HE3.out hb14).mono ?_
        rintro e w4 ⟨c4, err, rfl, hk4, hcase4⟩
        have HC4 := hid hcase4
        have HZ4 : Hid (NumZ w.heap.size w4 v' (dval (l.take (19 * (q + 1))))) := by
          have hkq := HKQ.out
          refine ⟨?_, fun h => HZ3.out.2 ?_⟩
          · have h1 := HZ3.out.1.kept hk4 (by
              intro y hy h
              have := HZ3.out.1.own_ge h
              simp at hy
              omega)
            have h2 := dval_chunk l (19 * q) (k + 1) (by omega) (by omega)
            rw [← HDN.out, show k + 1 - 19 * q = 19 by omega, show k + 1 = 19 * (q + 1) by omega] at h2
            rw [h2]
            exact h1
          · have h2 := dval_chunk l (19 * q) (k + 1) (by omega) (by omega)
            rw [← HDN.out, show k + 1 - 19 * q = 19 by omega, show k + 1 = 19 * (q + 1) by omega] at h2
            rw [h2] at h
            exact h
        have HK4 := hid (HK3.out.trans hk4 (ds := [b]) (by simp) (by simp))
        clear hcase4 hk4
        go_wp2
        go_roundw
        case rel =>
          refine ⟨k + 1, q + 1, 0, 0, c4, 48, rfl, by go_num, rfl, rfl, rfl, rfl, rfl, rfl, .inr rfl, by omega, by have := HKQ.out; unfold Hid; omega, ?_, HZ4.out, HK4.out, ?_⟩
          · show 0 = dval (chunk l (19 * (q + 1)) (k + 1))
            rw [show 19 * (q + 1) = k + 1 by have := HKQ.out; omega, chunk_self]
            rfl
          · have hnl := HN.out
            rcases HC4.out with ⟨g1, g2, g3, g4⟩ | ⟨g1, g2, g3⟩
            · exact .inl ⟨by omega, g2, g3, g4⟩
            · exact .inr ⟨by omega, g2, by rw [HN.out]; exact g3⟩
        case measure => simp [intOf]; omega
      · go_wp2_with fail
        refine (readByte_next b (k + 1) a l wr (by have := HN.out; omega) (by have := HN.out; omega) HR.out HE2.out hb14).mono ?_
        rintro e w4 ⟨c4, err, rfl, hk4, hcase4⟩
        have HC4 := hid hcase4
        have HZ4 : Hid (NumZ w.heap.size w4 u0 (dval (l.take (19 * q)))) := by
          refine ⟨HZ.out.1.kept hk4 ?_, HZ.out.2⟩
          intro y hy h
          simp at hy
          subst hy
          exact hbz h
        have HK4 := hid (HK.out.trans hk4 (ds := [b]) (by simp) (by simp))
        clear hcase4 hk4
        go_wp2
        go_roundw
        case rel =>
          refine ⟨k + 1, q, j + 1, d * 10 + c', c4, 48, rfl, by go_num, rfl, rfl, rfl, by go_num, by go_num, rfl, .inr rfl, by omega, by have := HKQ.out; unfold Hid; omega, HDN.out, HZ4.out, HK4.out, ?_⟩
          have hnl := HN.out
          rcases HC4.out with ⟨g1, g2, g3, g4⟩ | ⟨g1, g2, g3⟩
          · exact .inl ⟨by omega, g2, g3, g4⟩
          · exact .inr ⟨by omega, g2, by rw [HN.out]; exact g3⟩
        case measure => simp [intOf]; omega
    · have hE2 := HK.out.cellOf HE.out (by simpa using hb14.symm)
      have hszw := HK.out.size
      have htake : l.take k = l := List.take_of_length_le (by have := HN.out; omega)
      by_cases hj0 : j = 0
      · subst hj0
        have HZF : Hid (NumV w.heap.size wr u0 (dval l)) := by
          have := HZ.out.1
          rwa [show 19 * q = k by have := HKQ.out; omega, htake] at this
        rcases hp with rfl | rfl
        all_goals
          go_wp2
          refine bodyPost_ret (results_tmp4 rfl _ _ _) rfl ?_
          exact ⟨_, rfl, HZF.out, HR.out, HK.out⟩
      · have hpj := pow_ten j (by omega) wr
        have hpz : (10 : Nat) ^ j ≠ 0 := Nat.ne_of_gt (Nat.pow_pos (by omega))
        have hpl : (10 : Nat) ^ j ≤ 1000000000000000000 := pow10_le j 18 (by omega)
        have HFV : Hid (dval l = dval (l.take (19 * q)) * 10 ^ j + d) := by
          have hkq := HKQ.out
          have h2 := dval_chunk l (19 * q) k (by omega) (by have := HN.out; omega)
          rwa [← HDC.out, show k - 19 * q = j by omega, htake] at h2
        have hdj : d < 10 ^ j := by
          have hkq := HKQ.out
          have h1 := chunk_lt l HD.out (19 * q) k (by omega) (by have := HN.out; omega)
          rwa [← HDC.out, show k - 19 * q = j by omega] at h1
        generalize (10 : Nat) ^ j = P at *
        have HP := hid hpj
        clear hpj
        rcases hp with rfl | rfl
        all_goals
          go_wp2_with fail
          refine (HP.out).mono ?_
          rintro e w3 ⟨rfl, rfl⟩
          go_wp2_with fail
          refine (mulAddWW_num w.heap.size (dval (l.take (19 * q))) P d (19 * q) u0 w3 HZ.out (by have := HKQ.out; omega) (dval_take_lt l HD.out _) (by omega) hpz (by omega) hszw).mono ?_
          rintro e w4 ⟨v', rfl, hz4, hk4, ho4⟩
          have HZF : Hid (NumV w.heap.size w4 v' (dval l)) := by
            unfold Hid
            rw [HFV.out]
            exact hz4.1
          have HR4 : Hid (Rd w4 b l k) := by
            obtain ⟨p', hp'⟩ := HR.out
            exact ⟨p', hk4.heap hp' (by
              simp
              intro h
              have := HZ.out.1.own_ge h
              omega)⟩
          have HK4 := hid (HK.out.trans hk4 (ds := [b]) (by simp) (fun y hy => .inr (HZ.out.1.own_ge (by simpa using hy))))
          clear hz4 hk4 ho4
          go_wp2
          refine bodyPost_ret (results_tmp4 rfl _ _ _) rfl ?_
          exact ⟨_, rfl, HZF.out, HR4.out, HK4.out⟩
end

end Go.Proofs.YtofmickjbpkgbaaGreatDoor
