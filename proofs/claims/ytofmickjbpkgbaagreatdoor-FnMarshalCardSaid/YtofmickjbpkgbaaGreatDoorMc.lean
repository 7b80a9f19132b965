import Derived.Test.YtofmickjbpkgbaaGreatDoorMb
import Derived.Deep.RegionLaw
import Derived.Laws.IdiomStrings
set_option maxRecDepth 100000
namespace Go.Proofs.YtofmickjbpkgbaaGreatDoor
section
open Go.RowKit

theorem val_zero (x : Nat → Nat) : val x 0 = 0 := rfl

theorem itoa_any (N : Nat) (D : DivOK N) (B n : Nat) (v : Value) (x : Nat → Nat) (w : World) (hn : n ≤ N) (h3 : n ≤ 3) (hv : NatV B w v n x) (hx : ∀ j, j < n → x j < 18446744073709551616) (hnz : n = 0 ∨ x (n - 1) ≠ 0) (hG : w.cell? ⟨10, 0, none⟩ = some (.int .i64 8)) :
    Calls Tryz.prog 75 #[v, .bool false, .int .i64 10] w (ItoaPost (val x n) w) := by
  by_cases h0 : n = 0
  · subst h0
    obtain ⟨ao, c, rfl⟩ := hv.shape
    exact itoa_zero ao c w
  · rcases hv with ⟨_, h⟩ | ⟨g, c, rfl, h1, h2, h4, h5⟩
    · exact absurd h h0
    · exact itoa_pos N D g n c x w (by omega) hn h3 h2 h4 h5 hx (hnz.resolve_left h0) hG

/-- The figures of V, D of them. -/
def digF (V D : Nat) : Nat → Value := fun k => .int .u8 (48 + fig V (D - 1 - k) : Nat)

/-- What an appending of V's figures leaves. -/
def AppPost (V B : Nat) (w : World) (v : Value) (n : Nat) (f : Nat → Value) (e : Ending) (w' : World) : Prop :=
  ∃ D v', e = .returned v' ∧ 1 ≤ D ∧ D ≤ 1000 ∧ V < 10 ^ D ∧ (D = 1 ∨ 10 ^ (D - 1) ≤ V) ∧ SV (fun _ => True) B w' v' (n + D) (appF n f (digF V D)) ∧ Kept v.ownBlock.toList w w' ∧ (∀ k, v'.ownBlock = some k → v.ownBlock = some k ∨ w.heap.size ≤ k)

theorem digF_one (V D k : Nat) : (digF V D k).oneCell' = true := rfl

theorem src_figs (w : World) (g off D cap V : Nat) (hc : ∀ k, k < D → w.cell? ⟨g, off + k, none⟩ = some (.int .u8 (48 + fig V (D - 1 - k) : Nat))) :
    Src Tryz.prog 1 40 (.slice (some ⟨g, off, none⟩) D cap) D ((List.range D).map (digF V D)) w := by
  refine Src.ofSlice _ Tryz.underlying40 _ D cap _ (by simp) ?_ ?_
  · intro j v hj
    have hjn : j < D := by
      have := (List.getElem?_eq_some_iff.1 hj).1
      simpa using this
    rw [range_map_get _ hjn] at hj
    rw [Addr.add_lit, hc j hjn, ← hj]
    rfl
  · intro u hu
    obtain ⟨j, hj, rfl⟩ := List.mem_map.1 hu
    rfl

theorem step_append_sv {P : Program} {ops : Array Oper} {o : Oper} {a : Act} {w : World} {K : Act → World → Prop} {Q : Exit → Act → World → Prop} {E : Prop}
    (hg : o.guard = none) (s x : Operand) (t tx : TypeId) (hop : o.op = Op.call { callee := Callee.builtin Builtin.append, args := #[s, x], argTypes := #[t, tx] })
    (e : TypeId) (i : TypeInfo) (z : Value) (bytes : Nat) (h1 : P.underlying t = some (.slice e)) (h2 : P.info? e = some i) (h3 : i.zero = some z) (h4 : i.size = 1) (h5 : i.bytes = bytes) (h6 : z.cells.size = 1)
    (T : TypeId → Prop) (hT : T e) (B n m : Nat) (v xv : Value) (f f' : Nat → Value) (hsv : a.eval s = v) (hv : SV T B w v n f) (hxv : a.eval x = xv) (hs : Src P 1 tx xv m ((List.range m).map f') w)
    (h63 : n + m ≤ 9223372036854775807) (hb : (n + m) * bytes ≤ 140737488355328) (hB : B ≤ w.heap.size)
    (hK : ∀ v' w', SV T B w' v' (n + m) (appF n f f') → Kept v.ownBlock.toList w w' → Hid (∀ k, v'.ownBlock = some k → v.ownBlock = some k ∨ w.heap.size ≤ k) → K (a.put o.dst v') w') :
    if Region.wanted o (yielded ops a.tmps) = true then Oper.wp P o a w K Q else E := by
  have hw : Region.wanted o (yielded ops a.tmps) = true := by simp [Region.wanted, hg]
  rw [if_pos hw]
  obtain ⟨v', w', hr, r1, r2, r3⟩ := run_append_sv (P := P) w t tx o.type e i z bytes h1 h2 h3 h4 h5 h6 hT hv hs h63 hb hB
  unfold Oper.wp
  simp [execOp, hop, resolve, invoke, builtin, hsv, hxv, hr, Result.andThen]
  exact hK _ _ r1 r2 r3

set_option maxHeartbeats 4000000 in
theorem intAppend_any (N : Nat) (D : DivOK N) (b o : Nat) (cur : Array Value) (t : TypeId) (fr : Nat × Nat) (B' n : Nat) (va : Value) (x : Nat → Nat) (B m : Nat) (v : Value) (f : Nat → Value) (w : World) (hn : n ≤ N) (h3 : n ≤ 3)
    (hb : w.heap[b]? = some (.cells cur t fr)) (c0 : cur[o]? = some (.bool false)) (c1 : cur[o + 1]? = some va) (hva : NatV B' w va n x) (hx : ∀ j, j < n → x j < 18446744073709551616) (hnz : n = 0 ∨ x (n - 1) ≠ 0)
    (hs : SV (fun _ => True) B w v m f) (hB : B ≤ w.heap.size) (hm : m ≤ 1000000)
    (hG : w.cell? ⟨10, 0, none⟩ = some (.int .i64 8)) :
    Calls Tryz.prog 55 #[.pointer (some ⟨b, o, none⟩), v, .int .i64 10] w (AppPost (val x n) B w v m f) := by
  obtain ⟨i5, hi5, hz50, hz51, hz52⟩ := info_parts Tryz.info5
  have d0 : w.cell? ⟨b, o, none⟩ = some (.bool false) := (cell_of_heap hb o).trans c0
  have d1 : w.cell? ⟨b, o + 1, none⟩ = some va := (cell_of_heap hb (o + 1)).trans c1
  have HB := hid hb
  have HS := hid hs
  have HV := hid hva
  have HX := hid hx
  have HNZ := hid hnz
  have HG := hid hG
  clear hb c0 c1 hs hva hx hnz hG
  go_enter Tryz.func55, Tryz.ntmps55
  go_wp2_with fail
  go_region_law
    (first
      | (go_simp; go_at_call 75; refine (itoa_any N D B' n va x _ hn h3 (HV.out.drew) HX.out HNZ.out HG.out).mono ?_; rintro e w1 ⟨g1, off1, D1, cap1, rfl, hD1, hD2, hD3, hD4, hD5, hg1, hc1, hk1⟩)
      | (refine step_append_sv rfl (.tmp 11) (.tmp 21) 40 40 rfl 5 i5 (.int .u8 0) 1 Tryz.underlying40 hi5 hz50 hz51 hz52 rfl (fun _ => True) trivial B m D1 v _ f (digF (val x n) D1) rfl ((HS.out.drew).kept hk1 (by simp)) rfl (src_figs w1 g1 off1 D1 cap1 _ hc1) (by omega) (by omega) (by have := hk1.size; simp at this; omega) ?_; intro v' w2 hv2 hk2 ho2))
  all_goals
    go_wp2
    have hs1 := hk1.size
    simp only [World.size_drew] at hs1
    go_ret
    exact ⟨D1, v', rfl, hD1, by omega, hD4, hD5, hv2, hk1.ofDrew.trans hk2 (by simp) (fun x hx => .inl hx), fun k hk => by
      rcases ho2.out k hk with h | h
      · exact .inl h
      · right; omega⟩

/-- The call of the inner method: BigInt.Append. -/
theorem bigAppend_any (N : Nat) (D : DivOK N) (b o : Nat) (cur : Array Value) (t : TypeId) (fr : Nat × Nat) (B' n : Nat) (va : Value) (x : Nat → Nat) (B m : Nat) (v : Value) (f : Nat → Value) (w : World) (hn : n ≤ N) (h3 : n ≤ 3)
    (hb : w.heap[b]? = some (.cells cur t fr)) (c0 : cur[o]? = some (.bool false)) (c1 : cur[o + 1]? = some va) (hva : NatV B' w va n x) (hx : ∀ j, j < n → x j < 18446744073709551616) (hnz : n = 0 ∨ x (n - 1) ≠ 0)
    (hs : SV (fun _ => True) B w v m f) (hB : B ≤ w.heap.size) (hm : m ≤ 1000000)
    (hG : w.cell? ⟨10, 0, none⟩ = some (.int .i64 8)) :
    Calls Tryz.prog 41 #[.pointer (some ⟨b, o, none⟩), v, .int .i64 10] w (AppPost (val x n) B w v m f) := by
  have H := hid (intAppend_any N D b o cur t fr B' n va x B m v f w hn h3 hb c0 c1 hva hx hnz hs hB hm hG)
  clear c0 c1 hb hva hx hnz hs hG
  go_enter Tryz.func41, Tryz.ntmps41
  go_wp2_with fail
  refine (H.out).mono ?_
  rintro e w1 ⟨D1, v', rfl, h⟩
  go_wp2
  go_ret
  exact ⟨D1, v', rfl, h⟩

/-- BitLen of a coefficient. -/
theorem intBitLen_any (B n b o : Nat) (cur : Array Value) (t : TypeId) (fr : Nat × Nat) (va : Value) (x : Nat → Nat) (w : World) (hn : n ≤ 1000)
    (hb : w.heap[b]? = some (.cells cur t fr)) (c1 : cur[o + 1]? = some va) (hva : NatV B w va n x) (hx : ∀ j, j < n → x j < 18446744073709551616) (hnz : n = 0 ∨ x (n - 1) ≠ 0) :
    Calls Tryz.prog 57 #[.pointer (some ⟨b, o, none⟩)] w fun e w' => ∃ bl : Nat, e = .returned (.int .i64 bl) ∧ (bl = 0 ↔ val x n = 0) ∧ val x n < 2 ^ bl ∧ w' = w := by
  have d1 : w.cell? ⟨b, o + 1, none⟩ = some va := (cell_of_heap hb (o + 1)).trans c1
  have HV := hid hva
  have HX := hid hx
  have HNZ := hid hnz
  clear hb c1 hva hx hnz
  go_enter Tryz.func57, Tryz.ntmps57
  go_wp2_with fail
  refine (bitLen_any B n va x w (by omega) HV.out HX.out HNZ.out).mono ?_
  rintro e w1 ⟨bl, rfl, hbl, hbl2, hbl3, rfl⟩
  have HB := hid hbl3
  clear hbl3
  go_wp2
  go_ret
  refine ⟨bl, rfl, ⟨fun h => ?_, fun h => ?_⟩, HB.out, rfl⟩
  · subst h; have := HB.out; simp at this; exact this
  · rcases HNZ.out with h0 | h0
    · subst h0; omega
    · rcases Nat.eq_zero_or_pos n with h1 | h1
      · subst h1; omega
      · have := val_pos x n h1 h0
        omega

theorem bigBitLen_any (B n b o : Nat) (cur : Array Value) (t : TypeId) (fr : Nat × Nat) (va : Value) (x : Nat → Nat) (w : World) (hn : n ≤ 1000)
    (hb : w.heap[b]? = some (.cells cur t fr)) (c1 : cur[o + 1]? = some va) (hva : NatV B w va n x) (hx : ∀ j, j < n → x j < 18446744073709551616) (hnz : n = 0 ∨ x (n - 1) ≠ 0) :
    Calls Tryz.prog 44 #[.pointer (some ⟨b, o, none⟩)] w fun e w' => ∃ bl : Nat, e = .returned (.int .i64 bl) ∧ (bl = 0 ↔ val x n = 0) ∧ val x n < 2 ^ bl ∧ w' = w := by
  have H := hid (intBitLen_any B n b o cur t fr va x w hn hb c1 hva hx hnz)
  clear hb c1 hva hx hnz
  go_enter Tryz.func44, Tryz.ntmps44
  go_wp2_with fail
  refine (H.out).mono ?_
  rintro e w1 ⟨bl, rfl, h1, h2, rfl⟩
  have H1 := hid h1
  have H2 := hid h2
  clear h1 h2
  go_wp2
  go_ret
  exact ⟨bl, rfl, H1.out, H2.out, rfl⟩
end

section
open Go.RowKit

/-- What an appending of n' elements leaves. -/
def AddPost (B : Nat) (w : World) (v : Value) (n : Nat) (f : Nat → Value) (n' : Nat) (f' : Nat → Value) (e : Ending) (w' : World) : Prop :=
  ∃ v', e = .returned v' ∧ SV (fun _ => True) B w' v' (n + n') (appF n f f') ∧ Kept v.ownBlock.toList w w' ∧ (∀ k, v'.ownBlock = some k → v.ownBlock = some k ∨ w.heap.size ≤ k)

set_option maxHeartbeats 4000000 in
theorem fmtF_zero (b : Nat) (cur : Array Value) (t : TypeId) (B m D B2 : Nat) (v d : Value) (f g : Nat → Value) (w : World)
    (hb : w.heap[b]? = some (.cells cur t (0, 0))) (c2 : cur[2]? = some (.int .i32 0)) (hvb : v.ownBlock ≠ some b)
    (hs : SV (fun _ => True) B w v m f) (hd : SV (fun _ => True) B2 w d D g) (hg1 : ∀ j, j < D → (g j).oneCell' = true) (hB : B ≤ w.heap.size) (hm : m ≤ 1000000) (hD : D ≤ 1000000) :
    Calls Tryz.prog 43 #[v, .pointer (some ⟨b, 0, none⟩), d] w (AddPost B w v m f D g) := by
  obtain ⟨i5, hi5, hz50, hz51, hz52⟩ := info_parts Tryz.info5
  have d2 : w.cell? ⟨b, 2, none⟩ = some (.int .i32 0) := (cell_of_heap hb 2).trans c2
  have HS := hid hs
  have HD := hid hd
  have HSR := hid (hd.src 40 5 Tryz.underlying40 hg1)
  have hne : b ∉ v.ownBlock.toList := by simpa using hvb
  have HNE := hid hne
  clear hb c2 hs hd hg1 hne
  go_enter Tryz.func43, Tryz.ntmps43
  go_wp2_with (at_builtin; refine wpList_append_sv _ rfl (.tmp 62) (.tmp 63) 40 40 rfl 5 i5 (.int .u8 0) 1 Tryz.underlying40 hi5 hz50 hz51 hz52 rfl (fun _ => True) trivial B m D _ _ f g rfl HS.out rfl HSR.out (by omega) (by omega) hB ?_)
  intro v1 w1 hv1 hk1 ho1
  have HV1 := hid hv1
  have HK1 := hid hk1
  have d2' := hk1.cellOf d2 HNE.out
  clear hv1 hk1
  go_wp2
  refine wp_loop_rounds 1 ?_
  rw [rounds_succ]
  go_wp2
  go_ret
  exact ⟨v1, rfl, HV1.out, HK1.out, ho1.out⟩

theorem SV.own_lt {T : TypeId → Prop} {B n k : Nat} {w : World} {v : Value} {f : Nat → Value} (h : SV T B w v n f) (hk : v.ownBlock = some k) : k < w.heap.size := by
  rcases h with ⟨rfl, _⟩ | ⟨g, c, t, rfl, _, _, _, _, h6⟩
  · simp [Value.ownBlock] at hk
  · simp [Value.ownBlock] at hk; subst hk; exact h6.lt

theorem NatV.own_lt {B n : Nat} {w : World} {v : Value} {x : Nat → Nat} (h : NatV B w v n x) {ao : Option Addr} {c : Nat} (hv : v = .slice ao n c) {a : Addr} (ha : ao = some a) : a.block < w.heap.size := by
  rcases h with ⟨rfl, rfl⟩ | ⟨g, c', rfl, _, _, _, h5⟩
  · cases hv; cases ha
  · cases hv; cases ha; exact h5.lt

theorem appF_zero (f g : Nat → Value) (j : Nat) : appF 0 f g j = g j := by simp [appF]

/-- The coefficient's part of Append: what 'd.Coeff.Append(tmp[:0], 10)' leaves, and the sign ahead. -/
def DecPost (V B : Nat) (w : World) (v : Value) (n : Nat) (f : Nat → Value) (e : Ending) (w' : World) : Prop :=
  ∃ D v', e = .returned v' ∧ 1 ≤ D ∧ D ≤ 1000 ∧ V < 10 ^ D ∧ (D = 1 ∨ 10 ^ (D - 1) ≤ V) ∧ SV (fun _ => True) B w' v' (n + D) (appF n f (digF V D)) ∧ Kept v.ownBlock.toList w w' ∧ (∀ k, v'.ownBlock = some k → v.ownBlock = some k ∨ w.heap.size ≤ k)

theorem allocArr (w : World) (f : Nat → Value) : SV (fun _ => True) w.heap.size (w.alloc (.cells (Array.replicate 16 (.int .u8 0)) 84)) (.slice (some ⟨w.heap.size, 0, none⟩) 0 16) 0 f :=
  .inr ⟨w.heap.size, 16, 84, rfl, Nat.le_refl _, by omega, by omega, trivial, _, heap_alloc_new w _, by simp, fun j hj => by omega⟩

set_option maxHeartbeats 4000000 in
theorem decAppend_pos (N : Nat) (DV : DivOK N) (b : Nat) (B' n : Nat) (va : Value) (x : Nat → Nat) (B m : Nat) (v : Value) (f : Nat → Value) (w : World) (hn : n ≤ N) (h3 : n ≤ 3)
    (hb : w.heap[b]? = some (.cells #[.int .i8 0, .bool false, .int .i32 0, .bool false, va, .bool false] 69 (0, 0))) (hva : NatV B' w va n x) (hx : ∀ j, j < n → x j < 18446744073709551616) (hnz : n = 0 ∨ x (n - 1) ≠ 0)
    (hs : SV (fun _ => True) B w v m f) (hvb : v.ownBlock ≠ some b) (hB : B ≤ w.heap.size) (hm : m ≤ 1000)
    (hG : w.cell? ⟨10, 0, none⟩ = some (.int .i64 8)) :
    Calls Tryz.prog 32 #[.pointer (some ⟨b, 0, none⟩), v, .int .u8 71] w (DecPost (val x n) B w v m f) := by
  have d0 : w.cell? ⟨b, 0, none⟩ = some (.int .i8 0) := (cell_of_heap hb 0).trans rfl
  have d1 : w.cell? ⟨b, 1, none⟩ = some (.bool false) := (cell_of_heap hb 1).trans rfl
  have d2 : w.cell? ⟨b, 2, none⟩ = some (.int .i32 0) := (cell_of_heap hb 2).trans rfl
  have HB := hid hb
  have HS := hid hs
  have HV := hid hva
  have HX := hid hx
  have HNZ := hid hnz
  have HG := hid hG
  clear hb hs hva hx hnz hG
  go_enter Tryz.func32, Tryz.ntmps32
  go_wp2
  change Code.wp _ _ _ _ (w.alloc (.cells (Array.replicate 16 (.int .u8 0)) 84))
  have hkA := (Kept.refl [] w).alloc (.cells (Array.replicate 16 (.int .u8 0)) 84)
  have hA := allocArr w f
  have hlt := lt_of_heap HB.out
  have hzA : (w.alloc (.cells (Array.replicate 16 (.int .u8 0)) 84)).heap.size = w.heap.size + 1 := by simp
  generalize (w.alloc (.cells (Array.replicate 16 (.int .u8 0)) 84)) = W2 at *
  have hb2 := hid (hkA.heap HB.out (by simp))
  have hs2 := hid (HS.out.kept hkA (by simp))
  have hv2 := hid (HV.out.kept hkA (by simp))
  have hg2 := hid (hkA.cellOf HG.out (by simp))
  have HA := hid hA
  have HKA := hid hkA
  have HVO := HV
  clear d0 d1 d2 HB HV HG hA hkA
  go_region_with (go_at_call 41; refine (bigAppend_any N DV b 3 _ 69 (0, 0) B' n va x w.heap.size 0 _ _ W2.drew hn h3 hb2.out rfl rfl hv2.out.drew HX.out HNZ.out HA.out.drew (by simp; omega) (by omega) hg2.out).mono ?_; rintro e w3 ⟨D, v3, rfl, hD1, hD2, hD3, hD4, hv3, hk3, ho3⟩)
  have hk3' := hk3.ofDrew
  have hk3s := hk3'.size
  simp only [Value.ownBlock, Option.toList_some] at hk3'
  have hb3 := hk3'.heap hb2.out (by simp; omega)
  have hs3 := hs2.out.kept hk3' (by simp; intro h; have := HS.out.own_lt h; omega)
  have e0 : w3.cell? ⟨b, 0, none⟩ = some (.int .i8 0) := (cell_of_heap hb3 0).trans rfl
  have e1 : w3.cell? ⟨b, 1, none⟩ = some (.bool false) := (cell_of_heap hb3 1).trans rfl
  have e2 : w3.cell? ⟨b, 2, none⟩ = some (.int .i32 0) := (cell_of_heap hb3 2).trans rfl
  obtain ⟨ao, c3, rfl⟩ := hv3.shape
  have hv3' : SV (fun _ => True) w.heap.size w3 (Value.slice ao D c3) D (digF (val x n) D) := by
    have := hv3.congr (f' := digF (val x n) D) fun j hj => appF_zero _ _ j
    rwa [Nat.zero_add] at this
  have hv3n := hv2.out.kept hk3' (fun y hy => .inr fun ao c e a ha => by have h1 := HVO.out.own_lt e ha; simp at hy; subst hy; exact Nat.ne_of_lt h1)
  have HV3N := hid hv3n
  have HB3 := hid hb3
  have HS3 := hid hs3
  have HV3 := hid hv3'
  have HK3 := hid hk3'
  have HD3 := hid hD3
  have HD4 := hid hD4
  clear hb2 hs2 hv2 hg2 HA hk3 hk3' hv3 hv3' hv3n hb3 hs3 hD3 hD4 ho3
  rw [Nat.zero_add]
  go_wp2_with (go_at_call 44; refine (bigBitLen_any B' n b 3 _ 69 (0, 0) va x w3 (by omega) HB3.out rfl HV3N.out HX.out HNZ.out).mono ?_; rintro e w4 ⟨bl, rfl, hbl, hbl2, rfl⟩; clear hbl hbl2)
  all_goals
    refine (fmtF_zero b _ 69 B m D w.heap.size v _ f (digF (val x n) D) w4 HB3.out rfl hvb HS3.out HV3.out (fun j _ => rfl) (by omega) (by omega) (by omega)).mono ?_
    rintro e w5 ⟨v5, rfl, hv5, hk5, ho5⟩
    have HV5 := hid hv5
    have HK5 := hid hk5
    have HO5 := hid ho5
    clear hv5 hk5 ho5
    go_wp2
    go_ret
    exact ⟨D, v5, rfl, hD1, hD2, HD3.out, HD4.out, HV5.out, (HKA.out.trans HK3.out (ds := []) (by simp) (by simp)).trans HK5.out (by simp) (fun y hy => .inl hy), fun k hk => by
      rcases HO5.out k hk with h | h
      · exact .inl h
      · right; omega⟩
set_option maxHeartbeats 4000000 in
theorem decAppend_neg (N : Nat) (DV : DivOK N) (b : Nat) (B' n : Nat) (va : Value) (x : Nat → Nat) (B m : Nat) (v : Value) (f : Nat → Value) (w : World) (hn : n ≤ N) (h3 : n ≤ 3)
    (hb : w.heap[b]? = some (.cells #[.int .i8 0, .bool true, .int .i32 0, .bool false, va, .bool false] 69 (0, 0))) (hva : NatV B' w va n x) (hx : ∀ j, j < n → x j < 18446744073709551616) (hnz : n = 0 ∨ x (n - 1) ≠ 0) (hvn : ∀ y ∈ v.ownBlock.toList, y < B' ∨ ∀ ao c, va = .slice ao n c → ∀ a, ao = some a → a.block ≠ y) (hgn : 10 ∉ v.ownBlock.toList)
    (hs : SV (fun _ => True) B w v m f) (hvb : v.ownBlock ≠ some b) (hB : B ≤ w.heap.size) (hm : m ≤ 1000)
    (hG : w.cell? ⟨10, 0, none⟩ = some (.int .i64 8)) :
    Calls Tryz.prog 32 #[.pointer (some ⟨b, 0, none⟩), v, .int .u8 71] w (DecPost (val x n) B w v (m + 1) (appF m f (fun _ => .int .u8 45))) := by
  have d0 : w.cell? ⟨b, 0, none⟩ = some (.int .i8 0) := (cell_of_heap hb 0).trans rfl
  have d1 : w.cell? ⟨b, 1, none⟩ = some (.bool true) := (cell_of_heap hb 1).trans rfl
  have d2 : w.cell? ⟨b, 2, none⟩ = some (.int .i32 0) := (cell_of_heap hb 2).trans rfl
  have HB := hid hb
  have HS := hid hs
  have HV := hid hva
  have HX := hid hx
  have HNZ := hid hnz
  have HG := hid hG
  have HVN := hid hvn
  have HGN := hid hgn
  clear hvn hgn
  clear hb hs hva hx hnz hG
  obtain ⟨i5, hi5, hz50, hz51, hz52⟩ := info_parts Tryz.info5
  go_enter Tryz.func32, Tryz.ntmps32
  go_wp2_with (at_builtin; refine wpList_append_sv _ rfl (.tmp 15) (.tmp 16) 40 40 rfl 5 i5 (.int .u8 0) 1 Tryz.underlying40 hi5 hz50 hz51 hz52 rfl (fun _ => True) trivial B m 1 _ _ f (fun _ => .int .u8 45) rfl (HS.out.alloc _) rfl (Src.one _ 40 5 5 _ Tryz.underlying40 rfl) (by omega) (by omega) (by simp; omega) ?_)
  intro v1 w1 hv1 hk1 ho1
  have hkA := (Kept.refl [] w).alloc (.cells #[.int .u8 45] 5)
  have hk0 := hkA.trans hk1 (ds := v.ownBlock.toList) (by simp) (fun y hy => .inl hy)
  have HO1 : Hid (∀ k, v1.ownBlock = some k → v.ownBlock = some k ∨ w.heap.size ≤ k) := fun k hk => by
    rcases ho1.out k hk with h | h
    · exact .inl h
    · right; omega
  have hsz1 := hk0.size
  have hltb := lt_of_heap HB.out
  have hbn : b ∉ v.ownBlock.toList := by simpa using hvb
  have hb1 := hk0.heap HB.out hbn
  have hva1 : NatV B' w1 va n x := HV.out.kept hk0 HVN.out
  have hg1 := hk0.cellOf HG.out HGN.out
  have hvb1 : v1.ownBlock ≠ some b := fun h => by
    rcases HO1.out b h with h1 | h1
    · exact hvb h1
    · omega
  have e0 : w1.cell? ⟨b, 0, none⟩ = some (.int .i8 0) := (cell_of_heap hb1 0).trans rfl
  have HK0 := hid hk0
  have HS1 := hid hv1
  have HB1 := hid hb1
  have HV1 := hid hva1
  have HG1 := hid hg1
  clear d0 d1 d2 HB HS HV HG HVN HGN hkA hk0 hv1 hb1 hva1 hg1 hbn hk1 ho1
  go_wp2
  change Code.wp _ _ _ _ (w1.alloc (.cells (Array.replicate 16 (.int .u8 0)) 84))
  have hkA := (Kept.refl [] w1).alloc (.cells (Array.replicate 16 (.int .u8 0)) 84)
  have hA := allocArr w1 f
  have hlt := lt_of_heap HB1.out
  have hzA : (w1.alloc (.cells (Array.replicate 16 (.int .u8 0)) 84)).heap.size = w1.heap.size + 1 := by simp
  generalize (w1.alloc (.cells (Array.replicate 16 (.int .u8 0)) 84)) = W2 at *
  have hb2 := hid (hkA.heap HB1.out (by simp))
  have hs2 := hid (HS1.out.kept hkA (by simp))
  have hv2 := hid (HV1.out.kept hkA (by simp))
  have hg2 := hid (hkA.cellOf HG1.out (by simp))
  have HA := hid hA
  have HKA := hid hkA
  have HVO := HV1
  clear e0 HB1 HV1 HG1 hA hkA
  go_region_with (go_at_call 41; refine (bigAppend_any N DV b 3 _ 69 (0, 0) B' n va x w1.heap.size 0 _ _ W2.drew hn h3 hb2.out rfl rfl hv2.out.drew HX.out HNZ.out HA.out.drew (by simp; omega) (by omega) hg2.out).mono ?_; rintro e w3 ⟨D, v3, rfl, hD1, hD2, hD3, hD4, hv3, hk3, ho3⟩)
  have hk3' := hk3.ofDrew
  have hk3s := hk3'.size
  simp only [Value.ownBlock, Option.toList_some] at hk3'
  have hb3 := hk3'.heap hb2.out (by simp; omega)
  have hs3 := hs2.out.kept hk3' (by simp; intro h; have := HS1.out.own_lt h; omega)
  have e0 : w3.cell? ⟨b, 0, none⟩ = some (.int .i8 0) := (cell_of_heap hb3 0).trans rfl
  have e1 : w3.cell? ⟨b, 1, none⟩ = some (.bool true) := (cell_of_heap hb3 1).trans rfl
  have e2 : w3.cell? ⟨b, 2, none⟩ = some (.int .i32 0) := (cell_of_heap hb3 2).trans rfl
  obtain ⟨ao, c3, rfl⟩ := hv3.shape
  have hv3' : SV (fun _ => True) w1.heap.size w3 (Value.slice ao D c3) D (digF (val x n) D) := by
    have := hv3.congr (f' := digF (val x n) D) fun j hj => appF_zero _ _ j
    rwa [Nat.zero_add] at this
  have hv3n := hv2.out.kept hk3' (fun y hy => .inr fun ao c e a ha => by have h1 := HVO.out.own_lt e ha; simp at hy; subst hy; exact Nat.ne_of_lt h1)
  have HV3N := hid hv3n
  have HB3 := hid hb3
  have HS3 := hid hs3
  have HV3 := hid hv3'
  have HK3 := hid hk3'
  have HD3 := hid hD3
  have HD4 := hid hD4
  clear hb2 hs2 hv2 hg2 HA hk3 hk3' hv3 hv3' hv3n hb3 hs3 hD3 hD4 ho3
  rw [Nat.zero_add]
  go_wp2_with (go_at_call 44; refine (bigBitLen_any B' n b 3 _ 69 (0, 0) va x w3 (by omega) HB3.out rfl HV3N.out HX.out HNZ.out).mono ?_; rintro e w4 ⟨bl, rfl, hbl, hbl2, rfl⟩; clear hbl hbl2)
  all_goals
    refine (fmtF_zero b _ 69 B (m + 1) D w1.heap.size v1 _ (appF m f (fun _ => .int .u8 45)) (digF (val x n) D) w4 HB3.out rfl hvb1 HS3.out HV3.out (fun j _ => rfl) (by omega) (by omega) (by omega)).mono ?_
    rintro e w5 ⟨v5, rfl, hv5, hk5, ho5⟩
    have HV5 := hid hv5
    have HK5 := hid hk5
    have HO5 := hid ho5
    clear hv5 hk5 ho5
    go_wp2
    go_ret
    have hkk := ((HKA.out.trans HK3.out (ds := []) (by simp) (by simp)).trans HK5.out (ds := v1.ownBlock.toList) (by simp) (fun y hy => .inl hy))
    exact ⟨D, v5, rfl, hD1, hD2, HD3.out, HD4.out, HV5.out, HK0.out.trans hkk (fun y hy => .inl hy) (fun y hy => by
      simp at hy
      rcases HO1.out y hy with h | h
      · left; simpa using h
      · exact .inr h), fun k hk => by
      rcases HO5.out k hk with h | h
      · exact HO1.out k h
      · right; omega⟩
end

section
open Go.RowKit

/-- The string of n bytes c 0, c 1, .. -/
def strC (n : Nat) (c : Nat → Nat) : ByteArray := ⟨((List.range n).map fun j => UInt8.ofNat (c j)).toArray⟩

theorem strC_size (n : Nat) (c : Nat → Nat) : (strC n c).size = n := by
  show (((List.range n).map fun j => UInt8.ofNat (c j)).toArray).size = n
  simp

theorem strC_get (n : Nat) (c : Nat → Nat) (j : Nat) (h : j < n) : (strC n c).data[j]? = some (UInt8.ofNat (c j)) := by
  show (((List.range n).map fun j => UInt8.ofNat (c j)).toArray)[j]? = _
  simp [h]

theorem run_convert_sv {T : TypeId → Prop} {B n : Nat} {w : World} {v : Value} {f : Nat → Value} (c : Nat → Nat) (h : SV T B w v n f) (hn : 0 < n) (hc : ∀ j, j < n → c j < 256 ∧ f j = .int .u8 (c j : Nat)) :
    (convert 40 9 v).run Tryz.prog w = .ok (.string (strC n c)) w := by
  rcases h with ⟨_, rfl⟩ | ⟨g, cap, t, rfl, h2, h3, h4, h5, h6⟩
  · omega
  · have hl : ((List.range n).map fun j => UInt8.ofNat (c j)).length = n := by simp
    have := run_convert_bytes_back (P := Tryz.prog) w 40 9 5 ⟨g, 0, none⟩ cap ((List.range n).map fun j => UInt8.ofNat (c j)) Tryz.underlying40 Tryz.underlying5 Tryz.underlying9 (fun j hj => by
      have hj' : j < n := by simpa using hj
      rw [Addr.add_lit, Nat.zero_add, h6.cell hj', (hc j hj').2]
      have h256 := (hc j hj').1
      simp
      omega)
    rw [hl] at this
    exact this

/-- The bytes of a decimal whole number's text. -/
def decC (neg : Bool) (V D j : Nat) : Nat := if neg then (if j = 0 then 45 else 48 + fig V (D - j)) else 48 + fig V (D - 1 - j)
def sgn (neg : Bool) : Nat := if neg then 1 else 0
def decStr (neg : Bool) (V D : Nat) : ByteArray := strC (sgn neg + D) (decC neg V D)

theorem allocArr0 (w : World) (f : Nat → Value) : SV (fun _ => True) w.heap.size (w.alloc (.cells (Array.replicate 16 (.int .u8 0)) 84)) (.slice (some ⟨w.heap.size, 0, none⟩) 0 16) 0 f := allocArr w f

set_option maxHeartbeats 4000000 in
theorem decText_any (N : Nat) (DV : DivOK N) (b : Nat) (neg : Bool) (B' n : Nat) (va : Value) (x : Nat → Nat) (w : World) (hn : n ≤ N) (h3 : n ≤ 3)
    (hb : w.heap[b]? = some (.cells #[.int .i8 0, .bool neg, .int .i32 0, .bool false, va, .bool false] 69 (0, 0))) (hva : NatV B' w va n x) (hx : ∀ j, j < n → x j < 18446744073709551616) (hnz : n = 0 ∨ x (n - 1) ≠ 0)
    (hG : w.cell? ⟨10, 0, none⟩ = some (.int .i64 8)) :
    Calls Tryz.prog 24 #[.pointer (some ⟨b, 0, none⟩), .int .u8 71] w fun e w' => ∃ D, e = .returned (.string (decStr neg (val x n) D)) ∧ 1 ≤ D ∧ D ≤ 1000 ∧ val x n < 10 ^ D ∧ (D = 1 ∨ 10 ^ (D - 1) ≤ val x n) ∧ Kept [] w w' := by
  have hlt := lt_of_heap hb
  have hl10 := World.block_lt_of_cell? w _ hG
  have HB := hid hb
  have HV := hid hva
  have HX := hid hx
  have HNZ := hid hnz
  have HG := hid hG
  clear hb hva hx hnz hG
  go_enter Tryz.func24, Tryz.ntmps24
  go_wp2_with fail
  change Calls _ _ _ (w.alloc (.cells (Array.replicate 16 (.int .u8 0)) 84)) _
  have hkA := (Kept.refl [] w).alloc (.cells (Array.replicate 16 (.int .u8 0)) 84)
  have hA := allocArr w (fun _ => .nilIface)
  have hzA : (w.alloc (.cells (Array.replicate 16 (.int .u8 0)) 84)).heap.size = w.heap.size + 1 := by simp
  generalize (w.alloc (.cells (Array.replicate 16 (.int .u8 0)) 84)) = W2 at *
  have hb2 := hid (hkA.heap HB.out (by simp))
  have hv2 := hid (HV.out.kept hkA (by simp))
  have hg2 := hid (hkA.cellOf HG.out (by simp))
  have HA := hid hA
  have HKA := hid hkA
  have hne : (Value.slice (some ⟨w.heap.size, 0, none⟩) 0 16).ownBlock ≠ some b := by simp [Value.ownBlock]; omega
  cases neg
  · refine (decAppend_pos N DV b B' n va x w.heap.size 0 _ _ W2 hn h3 hb2.out hv2.out HX.out HNZ.out HA.out hne (by omega) (by omega) hg2.out).mono ?_
    rintro e w3 ⟨D, v3, rfl, hD1, hD2, hD3, hD4, hv3, hk3, ho3⟩
    have hcv := run_convert_sv (decC false (val x n) D) hv3 (by omega) (fun j hj => ⟨by have := fig_lt (val x n) (D - 1 - j); simp [decC]; omega, by simp [appF, digF, decC]⟩)
    have HK3 := hid (HKA.out.trans hk3 (ds := []) (by simp) (by simp [Value.ownBlock]))
    have HD3 := hid hD3
    have HD4 := hid hD4
    have hcv' : (convert 40 9 v3).run Tryz.prog w3 = .ok (.string (decStr false (val x n) D)) w3 := hcv
    clear hcv hv3 hk3 ho3 hD3 hD4 HA hA hkA hb2 hv2 hg2 HB HV HG HX HNZ
    go_wp2
    go_ret
    exact ⟨D, rfl, hD1, hD2, HD3.out, HD4.out, HK3.out⟩
  · refine (decAppend_neg N DV b B' n va x w.heap.size 0 _ _ W2 hn h3 hb2.out hv2.out HX.out HNZ.out ?_ ?_ HA.out hne (by omega) (by omega) hg2.out).mono ?_
    · intro y hy
      simp [Value.ownBlock] at hy
      subst hy
      exact .inr fun ao c e a ha => Nat.ne_of_lt (HV.out.own_lt e ha)
    · simp [Value.ownBlock]; omega
    rintro e w3 ⟨D, v3, rfl, hD1, hD2, hD3, hD4, hv3, hk3, ho3⟩
    have hcv := run_convert_sv (decC true (val x n) D) hv3 (by omega) (fun j hj => by
      by_cases hj0 : j = 0
      · subst hj0
        exact ⟨by simp [decC], by simp [appF, decC]⟩
      · have := fig_lt (val x n) (D - j)
        refine ⟨by simp [decC, hj0]; omega, ?_⟩
        have h1 : ¬ j < 0 + 1 := by omega
        simp only [appF, if_neg h1, digF, decC, if_neg hj0, if_true]
        rw [show D - 1 - (j - (0 + 1)) = D - j by omega])
    have HK3 := hid (HKA.out.trans hk3 (ds := []) (by simp) (by simp [Value.ownBlock]))
    have HD3 := hid hD3
    have HD4 := hid hD4
    have hcv' : (convert 40 9 v3).run Tryz.prog w3 = .ok (.string (decStr true (val x n) D)) w3 := hcv
    clear hcv hv3 hk3 ho3 hD3 hD4 HA hA hkA hb2 hv2 hg2 HB HV HG HX HNZ
    go_wp2
    go_ret
    exact ⟨D, rfl, hD1, hD2, HD3.out, HD4.out, HK3.out⟩

theorem decString_any (N : Nat) (DV : DivOK N) (b : Nat) (neg : Bool) (B' n : Nat) (va : Value) (x : Nat → Nat) (w : World) (hn : n ≤ N) (h3 : n ≤ 3)
    (hb : w.heap[b]? = some (.cells #[.int .i8 0, .bool neg, .int .i32 0, .bool false, va, .bool false] 69 (0, 0))) (hva : NatV B' w va n x) (hx : ∀ j, j < n → x j < 18446744073709551616) (hnz : n = 0 ∨ x (n - 1) ≠ 0)
    (hG : w.cell? ⟨10, 0, none⟩ = some (.int .i64 8)) :
    Calls Tryz.prog 28 #[.pointer (some ⟨b, 0, none⟩)] w fun e w' => ∃ D, e = .returned (.string (decStr neg (val x n) D)) ∧ 1 ≤ D ∧ D ≤ 1000 ∧ val x n < 10 ^ D ∧ (D = 1 ∨ 10 ^ (D - 1) ≤ val x n) ∧ Kept [] w w' := by
  have H := hid (decText_any N DV b neg B' n va x w hn h3 hb hva hx hnz hG)
  clear hb hva hx hnz hG
  go_enter Tryz.func28, Tryz.ntmps28
  go_wp2_with fail
  refine (H.out).mono ?_
  rintro e w1 ⟨D, rfl, h1, h2, h3', h4, h5⟩
  have H3 := hid h3'
  have H4 := hid h4
  have H5 := hid h5
  clear h3' h4 h5
  go_wp2
  go_ret
  exact ⟨D, rfl, h1, h2, H3.out, H4.out, H5.out⟩
end

end Go.Proofs.YtofmickjbpkgbaaGreatDoor
