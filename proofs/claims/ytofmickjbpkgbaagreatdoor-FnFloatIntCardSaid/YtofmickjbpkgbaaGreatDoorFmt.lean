import Derived.Test.YtofmickjbpkgbaaGreatDoorItoa
import Derived.Deep.RegionLaw
namespace Go.Proofs.YtofmickjbpkgbaaGreatDoor
open Go.RowKit
set_option maxRecDepth 100000

theorem val_zero (x : Nat → Nat) : val x 0 = 0 := rfl

theorem itoa_any (N : Nat) (D : DivOK N) (B n : Nat) (v : Value) (x : Nat → Nat) (w : World) (hn : n ≤ N) (h3 : n ≤ 3) (hv : NatV B w v n x) (hx : ∀ j, j < n → x j < 18446744073709551616) (hnz : n = 0 ∨ x (n - 1) ≠ 0) (hG : w.cell? ⟨10, 0, none⟩ = some (.int .i64 8)) :
    Calls Tryz.prog 75 #[v, .bool false, .int .i64 10] w (ItoaPost (val x n) w) := by
  by_cases h0 : n = 0
  · subst h0
    obtain ⟨ao, c, rfl⟩ := hv.shape
    exact itoa_zero ao c w
  · rcases hv with ⟨_, h⟩ | ⟨g, c, rfl, h1, h2, h4, h5⟩
    · exact absurd h h0
    · exact itoa_pos N D g n c x w (by omega) hn h3 h2 h4 h5 hx (hnz.resolve_left h0) hG

/-- The figures of V, D of them. -/
def digF (V D : Nat) : Nat → Value := fun k => .int .u8 (48 + fig V (D - 1 - k) : Nat)

/-- What an appending of V's figures leaves. -/
def AppPost (V B : Nat) (w : World) (v : Value) (n : Nat) (f : Nat → Value) (e : Ending) (w' : World) : Prop :=
  ∃ D v', e = .returned v' ∧ 1 ≤ D ∧ D ≤ 1000 ∧ V < 10 ^ D ∧ (D = 1 ∨ 10 ^ (D - 1) ≤ V) ∧ SV (fun _ => True) B w' v' (n + D) (appF n f (digF V D)) ∧ Kept v.ownBlock.toList w w' ∧ (∀ k, v'.ownBlock = some k → v.ownBlock = some k ∨ w.heap.size ≤ k)

theorem digF_one (V D k : Nat) : (digF V D k).oneCell' = true := rfl

theorem src_figs (w : World) (g off D cap V : Nat) (hc : ∀ k, k < D → w.cell? ⟨g, off + k, none⟩ = some (.int .u8 (48 + fig V (D - 1 - k) : Nat))) :
    Src Tryz.prog 1 40 (.slice (some ⟨g, off, none⟩) D cap) D ((List.range D).map (digF V D)) w := by
  refine Src.ofSlice _ Tryz.underlying40 _ D cap _ (by simp) ?_ ?_
  · intro j v hj
    have hjn : j < D := by
      have := (List.getElem?_eq_some_iff.1 hj).1
      simpa using this
    rw [range_map_get _ hjn] at hj
    rw [Addr.add_lit, hc j hjn, ← hj]
    rfl
  · intro u hu
    obtain ⟨j, hj, rfl⟩ := List.mem_map.1 hu
    rfl

theorem step_append_sv {P : Program} {ops : Array Oper} {o : Oper} {a : Act} {w : World} {K : Act → World → Prop} {Q : Exit → Act → World → Prop} {E : Prop}
    (hg : o.guard = none) (s x : Operand) (t tx : TypeId) (hop : o.op = Op.call { callee := Callee.builtin Builtin.append, args := #[s, x], argTypes := #[t, tx] })
    (e : TypeId) (i : TypeInfo) (z : Value) (bytes : Nat) (h1 : P.underlying t = some (.slice e)) (h2 : P.info? e = some i) (h3 : i.zero = some z) (h4 : i.size = 1) (h5 : i.bytes = bytes) (h6 : z.cells.size = 1)
    (T : TypeId → Prop) (hT : T e) (B n m : Nat) (v xv : Value) (f f' : Nat → Value) (hsv : a.eval s = v) (hv : SV T B w v n f) (hxv : a.eval x = xv) (hs : Src P 1 tx xv m ((List.range m).map f') w)
    (h63 : n + m ≤ 9223372036854775807) (hb : (n + m) * bytes ≤ 140737488355328) (hB : B ≤ w.heap.size)
    (hK : ∀ v' w', SV T B w' v' (n + m) (appF n f f') → Kept v.ownBlock.toList w w' → Hid (∀ k, v'.ownBlock = some k → v.ownBlock = some k ∨ w.heap.size ≤ k) → K (a.put o.dst v') w') :
    if Region.wanted o (yielded ops a.tmps) = true then Oper.wp P o a w K Q else E := by
  have hw : Region.wanted o (yielded ops a.tmps) = true := by simp [Region.wanted, hg]
  rw [if_pos hw]
  obtain ⟨v', w', hr, r1, r2, r3⟩ := run_append_sv (P := P) w t tx o.type e i z bytes h1 h2 h3 h4 h5 h6 hT hv hs h63 hb hB
  unfold Oper.wp
  simp [execOp, hop, resolve, invoke, builtin, hsv, hxv, hr, Result.andThen]
  exact hK _ _ r1 r2 r3

set_option maxHeartbeats 4000000 in
theorem intAppend_any (N : Nat) (D : DivOK N) (b o : Nat) (cur : Array Value) (t : TypeId) (fr : Nat × Nat) (B' n : Nat) (va : Value) (x : Nat → Nat) (B m : Nat) (v : Value) (f : Nat → Value) (w : World) (hn : n ≤ N) (h3 : n ≤ 3)
    (hb : w.heap[b]? = some (.cells cur t fr)) (c0 : cur[o]? = some (.bool false)) (c1 : cur[o + 1]? = some va) (hva : NatV B' w va n x) (hx : ∀ j, j < n → x j < 18446744073709551616) (hnz : n = 0 ∨ x (n - 1) ≠ 0)
    (hs : SV (fun _ => True) B w v m f) (hB : B ≤ w.heap.size) (hm : m ≤ 1000000)
    (hG : w.cell? ⟨10, 0, none⟩ = some (.int .i64 8)) :
    Calls Tryz.prog 55 #[.pointer (some ⟨b, o, none⟩), v, .int .i64 10] w (AppPost (val x n) B w v m f) := by
  obtain ⟨i5, hi5, hz50, hz51, hz52⟩ := info_parts Tryz.info5
  have d0 : w.cell? ⟨b, o, none⟩ = some (.bool false) := (cell_of_heap hb o).trans c0
  have d1 : w.cell? ⟨b, o + 1, none⟩ = some va := (cell_of_heap hb (o + 1)).trans c1
  have HB := hid hb
  have HS := hid hs
  have HV := hid hva
  have HX := hid hx
  have HNZ := hid hnz
  have HG := hid hG
  clear hb c0 c1 hs hva hx hnz hG
  go_enter Tryz.func55, Tryz.ntmps55
  go_wp2_with fail
  go_region_law
    (first
      | (go_simp; go_at_call 75; refine (itoa_any N D B' n va x _ hn h3 (HV.out.drew) HX.out HNZ.out HG.out).mono ?_; rintro e w1 ⟨g1, off1, D1, cap1, rfl, hD1, hD2, hD3, hD4, hD5, hg1, hc1, hk1⟩)
      | (refine step_append_sv rfl (.tmp 11) (.tmp 21) 40 40 rfl 5 i5 (.int .u8 0) 1 Tryz.underlying40 hi5 hz50 hz51 hz52 rfl (fun _ => True) trivial B m D1 v _ f (digF (val x n) D1) rfl ((HS.out.drew).kept hk1 (by simp)) rfl (src_figs w1 g1 off1 D1 cap1 _ hc1) (by omega) (by omega) (by have := hk1.size; simp at this; omega) ?_; intro v' w2 hv2 hk2 ho2))
  all_goals
    go_wp2
    have hs1 := hk1.size
    simp only [World.size_drew] at hs1
    go_ret
    exact ⟨D1, v', rfl, hD1, by omega, hD4, hD5, hv2, hk1.ofDrew.trans hk2 (by simp) (fun x hx => .inl hx), fun k hk => by
      rcases ho2.out k hk with h | h
      · exact .inl h
      · right; omega⟩

/-- The call of the inner method: BigInt.Append. -/
theorem bigAppend_any (N : Nat) (D : DivOK N) (b o : Nat) (cur : Array Value) (t : TypeId) (fr : Nat × Nat) (B' n : Nat) (va : Value) (x : Nat → Nat) (B m : Nat) (v : Value) (f : Nat → Value) (w : World) (hn : n ≤ N) (h3 : n ≤ 3)
    (hb : w.heap[b]? = some (.cells cur t fr)) (c0 : cur[o]? = some (.bool false)) (c1 : cur[o + 1]? = some va) (hva : NatV B' w va n x) (hx : ∀ j, j < n → x j < 18446744073709551616) (hnz : n = 0 ∨ x (n - 1) ≠ 0)
    (hs : SV (fun _ => True) B w v m f) (hB : B ≤ w.heap.size) (hm : m ≤ 1000000)
    (hG : w.cell? ⟨10, 0, none⟩ = some (.int .i64 8)) :
    Calls Tryz.prog 41 #[.pointer (some ⟨b, o, none⟩), v, .int .i64 10] w (AppPost (val x n) B w v m f) := by
  have H := hid (intAppend_any N D b o cur t fr B' n va x B m v f w hn h3 hb c0 c1 hva hx hnz hs hB hm hG)
  clear c0 c1 hb hva hx hnz hs hG
  go_enter Tryz.func41, Tryz.ntmps41
  go_wp2_with fail
  refine (H.out).mono ?_
  rintro e w1 ⟨D1, v', rfl, h⟩
  go_wp2
  go_ret
  exact ⟨D1, v', rfl, h⟩

/-- BitLen of a coefficient. -/
theorem intBitLen_any (B n b o : Nat) (cur : Array Value) (t : TypeId) (fr : Nat × Nat) (va : Value) (x : Nat → Nat) (w : World) (hn : n ≤ 1000)
    (hb : w.heap[b]? = some (.cells cur t fr)) (c1 : cur[o + 1]? = some va) (hva : NatV B w va n x) (hx : ∀ j, j < n → x j < 18446744073709551616) (hnz : n = 0 ∨ x (n - 1) ≠ 0) :
    Calls Tryz.prog 57 #[.pointer (some ⟨b, o, none⟩)] w fun e w' => ∃ bl : Nat, e = .returned (.int .i64 bl) ∧ (bl = 0 ↔ val x n = 0) ∧ val x n < 2 ^ bl ∧ w' = w := by
  have d1 : w.cell? ⟨b, o + 1, none⟩ = some va := (cell_of_heap hb (o + 1)).trans c1
  have HV := hid hva
  have HX := hid hx
  have HNZ := hid hnz
  clear hb c1 hva hx hnz
  go_enter Tryz.func57, Tryz.ntmps57
  go_wp2_with fail
  refine (bitLen_any B n va x w (by omega) HV.out HX.out HNZ.out).mono ?_
  rintro e w1 ⟨bl, rfl, hbl, hbl2, hbl3, rfl⟩
  have HB := hid hbl3
  clear hbl3
  go_wp2
  go_ret
  refine ⟨bl, rfl, ⟨fun h => ?_, fun h => ?_⟩, HB.out, rfl⟩
  · subst h; have := HB.out; simp at this; exact this
  · rcases HNZ.out with h0 | h0
    · subst h0; omega
    · rcases Nat.eq_zero_or_pos n with h1 | h1
      · subst h1; omega
      · have := val_pos x n h1 h0
        omega

theorem bigBitLen_any (B n b o : Nat) (cur : Array Value) (t : TypeId) (fr : Nat × Nat) (va : Value) (x : Nat → Nat) (w : World) (hn : n ≤ 1000)
    (hb : w.heap[b]? = some (.cells cur t fr)) (c1 : cur[o + 1]? = some va) (hva : NatV B w va n x) (hx : ∀ j, j < n → x j < 18446744073709551616) (hnz : n = 0 ∨ x (n - 1) ≠ 0) :
    Calls Tryz.prog 44 #[.pointer (some ⟨b, o, none⟩)] w fun e w' => ∃ bl : Nat, e = .returned (.int .i64 bl) ∧ (bl = 0 ↔ val x n = 0) ∧ val x n < 2 ^ bl ∧ w' = w := by
  have H := hid (intBitLen_any B n b o cur t fr va x w hn hb c1 hva hx hnz)
  clear hb c1 hva hx hnz
  go_enter Tryz.func44, Tryz.ntmps44
  go_wp2_with fail
  refine (H.out).mono ?_
  rintro e w1 ⟨bl, rfl, h1, h2, rfl⟩
  have H1 := hid h1
  have H2 := hid h2
  clear h1 h2
  go_wp2
  go_ret
  exact ⟨bl, rfl, H1.out, H2.out, rfl⟩
end Go.Proofs.YtofmickjbpkgbaaGreatDoor
