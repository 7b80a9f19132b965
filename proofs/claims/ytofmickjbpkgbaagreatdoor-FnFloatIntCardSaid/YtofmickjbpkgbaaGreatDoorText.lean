import Derived.Test.YtofmickjbpkgbaaGreatDoorFmt
namespace Go.Proofs.YtofmickjbpkgbaaGreatDoor
open Go.RowKit
set_option maxRecDepth 100000

/-- What an appending of n' elements leaves. -/
def AddPost (B : Nat) (w : World) (v : Value) (n : Nat) (f : Nat → Value) (n' : Nat) (f' : Nat → Value) (e : Ending) (w' : World) : Prop :=
  ∃ v', e = .returned v' ∧ SV (fun _ => True) B w' v' (n + n') (appF n f f') ∧ Kept v.ownBlock.toList w w' ∧ (∀ k, v'.ownBlock = some k → v.ownBlock = some k ∨ w.heap.size ≤ k)

set_option maxHeartbeats 4000000 in
theorem fmtF_zero (b : Nat) (cur : Array Value) (t : TypeId) (B m D B2 : Nat) (v d : Value) (f g : Nat → Value) (w : World)
    (hb : w.heap[b]? = some (.cells cur t (0, 0))) (c2 : cur[2]? = some (.int .i32 0)) (hvb : v.ownBlock ≠ some b)
    (hs : SV (fun _ => True) B w v m f) (hd : SV (fun _ => True) B2 w d D g) (hg1 : ∀ j, j < D → (g j).oneCell' = true) (hB : B ≤ w.heap.size) (hm : m ≤ 1000000) (hD : D ≤ 1000000) :
    Calls Tryz.prog 43 #[v, .pointer (some ⟨b, 0, none⟩), d] w (AddPost B w v m f D g) := by
  obtain ⟨i5, hi5, hz50, hz51, hz52⟩ := info_parts Tryz.info5
  have d2 : w.cell? ⟨b, 2, none⟩ = some (.int .i32 0) := (cell_of_heap hb 2).trans c2
  have HS := hid hs
  have HD := hid hd
  have HSR := hid (hd.src 40 5 Tryz.underlying40 hg1)
  have hne : b ∉ v.ownBlock.toList := by simpa using hvb
  have HNE := hid hne
  clear hb c2 hs hd hg1 hne
  go_enter Tryz.func43, Tryz.ntmps43
  go_wp2_with (at_builtin; refine wpList_append_sv _ rfl (.tmp 62) (.tmp 63) 40 40 rfl 5 i5 (.int .u8 0) 1 Tryz.underlying40 hi5 hz50 hz51 hz52 rfl (fun _ => True) trivial B m D _ _ f g rfl HS.out rfl HSR.out (by omega) (by omega) hB ?_)
  intro v1 w1 hv1 hk1 ho1
  have HV1 := hid hv1
  have HK1 := hid hk1
  have d2' := hk1.cellOf d2 HNE.out
  clear hv1 hk1
  go_wp2
  refine wp_loop_rounds 1 ?_
  rw [rounds_succ]
  go_wp2
  go_ret
  exact ⟨v1, rfl, HV1.out, HK1.out, ho1.out⟩

theorem SV.own_lt {T : TypeId → Prop} {B n k : Nat} {w : World} {v : Value} {f : Nat → Value} (h : SV T B w v n f) (hk : v.ownBlock = some k) : k < w.heap.size := by
  rcases h with ⟨rfl, _⟩ | ⟨g, c, t, rfl, _, _, _, _, h6⟩
  · simp [Value.ownBlock] at hk
  · simp [Value.ownBlock] at hk; subst hk; exact h6.lt

theorem NatV.own_lt {B n : Nat} {w : World} {v : Value} {x : Nat → Nat} (h : NatV B w v n x) {ao : Option Addr} {c : Nat} (hv : v = .slice ao n c) {a : Addr} (ha : ao = some a) : a.block < w.heap.size := by
  rcases h with ⟨rfl, rfl⟩ | ⟨g, c', rfl, _, _, _, h5⟩
  · cases hv; cases ha
  · cases hv; cases ha; exact h5.lt

theorem appF_zero (f g : Nat → Value) (j : Nat) : appF 0 f g j = g j := by simp [appF]

/-- The coefficient's part of Append: what 'd.Coeff.Append(tmp[:0], 10)' leaves, and the sign ahead. -/
def DecPost (V B : Nat) (w : World) (v : Value) (n : Nat) (f : Nat → Value) (e : Ending) (w' : World) : Prop :=
  ∃ D v', e = .returned v' ∧ 1 ≤ D ∧ D ≤ 1000 ∧ V < 10 ^ D ∧ (D = 1 ∨ 10 ^ (D - 1) ≤ V) ∧ SV (fun _ => True) B w' v' (n + D) (appF n f (digF V D)) ∧ Kept v.ownBlock.toList w w' ∧ (∀ k, v'.ownBlock = some k → v.ownBlock = some k ∨ w.heap.size ≤ k)

theorem allocArr (w : World) (f : Nat → Value) : SV (fun _ => True) w.heap.size (w.alloc (.cells (Array.replicate 16 (.int .u8 0)) 84)) (.slice (some ⟨w.heap.size, 0, none⟩) 0 16) 0 f :=
  .inr ⟨w.heap.size, 16, 84, rfl, Nat.le_refl _, by omega, by omega, trivial, _, heap_alloc_new w _, by simp, fun j hj => by omega⟩

set_option maxHeartbeats 4000000 in
theorem decAppend_pos (N : Nat) (DV : DivOK N) (b : Nat) (B' n : Nat) (va : Value) (x : Nat → Nat) (B m : Nat) (v : Value) (f : Nat → Value) (w : World) (hn : n ≤ N) (h3 : n ≤ 3)
    (hb : w.heap[b]? = some (.cells #[.int .i8 0, .bool false, .int .i32 0, .bool false, va, .bool false] 69 (0, 0))) (hva : NatV B' w va n x) (hx : ∀ j, j < n → x j < 18446744073709551616) (hnz : n = 0 ∨ x (n - 1) ≠ 0)
    (hs : SV (fun _ => True) B w v m f) (hvb : v.ownBlock ≠ some b) (hB : B ≤ w.heap.size) (hm : m ≤ 1000)
    (hG : w.cell? ⟨10, 0, none⟩ = some (.int .i64 8)) :
    Calls Tryz.prog 32 #[.pointer (some ⟨b, 0, none⟩), v, .int .u8 71] w (DecPost (val x n) B w v m f) := by
  have d0 : w.cell? ⟨b, 0, none⟩ = some (.int .i8 0) := (cell_of_heap hb 0).trans rfl
  have d1 : w.cell? ⟨b, 1, none⟩ = some (.bool false) := (cell_of_heap hb 1).trans rfl
  have d2 : w.cell? ⟨b, 2, none⟩ = some (.int .i32 0) := (cell_of_heap hb 2).trans rfl
  have HB := hid hb
  have HS := hid hs
  have HV := hid hva
  have HX := hid hx
  have HNZ := hid hnz
  have HG := hid hG
  clear hb hs hva hx hnz hG
  go_enter Tryz.func32, Tryz.ntmps32
  go_wp2
  change Code.wp _ _ _ _ (w.alloc (.cells (Array.replicate 16 (.int .u8 0)) 84))
  have hkA := (Kept.refl [] w).alloc (.cells (Array.replicate 16 (.int .u8 0)) 84)
  have hA := allocArr w f
  have hlt := lt_of_heap HB.out
  have hzA : (w.alloc (.cells (Array.replicate 16 (.int .u8 0)) 84)).heap.size = w.heap.size + 1 := by simp
  generalize (w.alloc (.cells (Array.replicate 16 (.int .u8 0)) 84)) = W2 at *
  have hb2 := hid (hkA.heap HB.out (by simp))
  have hs2 := hid (HS.out.kept hkA (by simp))
  have hv2 := hid (HV.out.kept hkA (by simp))
  have hg2 := hid (hkA.cellOf HG.out (by simp))
  have HA := hid hA
  have HKA := hid hkA
  have HVO := HV
  clear d0 d1 d2 HB HV HG hA hkA
  go_region_with (go_at_call 41; refine (bigAppend_any N DV b 3 _ 69 (0, 0) B' n va x w.heap.size 0 _ _ W2.drew hn h3 hb2.out rfl rfl hv2.out.drew HX.out HNZ.out HA.out.drew (by simp; omega) (by omega) hg2.out).mono ?_; rintro e w3 ⟨D, v3, rfl, hD1, hD2, hD3, hD4, hv3, hk3, ho3⟩)
  have hk3' := hk3.ofDrew
  have hk3s := hk3'.size
  simp only [Value.ownBlock, Option.toList_some] at hk3'
  have hb3 := hk3'.heap hb2.out (by simp; omega)
  have hs3 := hs2.out.kept hk3' (by simp; intro h; have := HS.out.own_lt h; omega)
  have e0 : w3.cell? ⟨b, 0, none⟩ = some (.int .i8 0) := (cell_of_heap hb3 0).trans rfl
  have e1 : w3.cell? ⟨b, 1, none⟩ = some (.bool false) := (cell_of_heap hb3 1).trans rfl
  have e2 : w3.cell? ⟨b, 2, none⟩ = some (.int .i32 0) := (cell_of_heap hb3 2).trans rfl
  obtain ⟨ao, c3, rfl⟩ := hv3.shape
  have hv3' : SV (fun _ => True) w.heap.size w3 (Value.slice ao D c3) D (digF (val x n) D) := by
    have := hv3.congr (f' := digF (val x n) D) fun j hj => appF_zero _ _ j
    rwa [Nat.zero_add] at this
  have hv3n := hv2.out.kept hk3' (fun y hy => .inr fun ao c e a ha => by have h1 := HVO.out.own_lt e ha; simp at hy; subst hy; exact Nat.ne_of_lt h1)
  have HV3N := hid hv3n
  have HB3 := hid hb3
  have HS3 := hid hs3
  have HV3 := hid hv3'
  have HK3 := hid hk3'
  have HD3 := hid hD3
  have HD4 := hid hD4
  clear hb2 hs2 hv2 hg2 HA hk3 hk3' hv3 hv3' hv3n hb3 hs3 hD3 hD4 ho3
  rw [Nat.zero_add]
  go_wp2_with (go_at_call 44; refine (bigBitLen_any B' n b 3 _ 69 (0, 0) va x w3 (by omega) HB3.out rfl HV3N.out HX.out HNZ.out).mono ?_; rintro e w4 ⟨bl, rfl, hbl, hbl2, rfl⟩; clear hbl hbl2)
  all_goals
    refine (fmtF_zero b _ 69 B m D w.heap.size v _ f (digF (val x n) D) w4 HB3.out rfl hvb HS3.out HV3.out (fun j _ => rfl) (by omega) (by omega) (by omega)).mono ?_
    rintro e w5 ⟨v5, rfl, hv5, hk5, ho5⟩
    have HV5 := hid hv5
    have HK5 := hid hk5
    have HO5 := hid ho5
    clear hv5 hk5 ho5
    go_wp2
    go_ret
    exact ⟨D, v5, rfl, hD1, hD2, HD3.out, HD4.out, HV5.out, (HKA.out.trans HK3.out (ds := []) (by simp) (by simp)).trans HK5.out (by simp) (fun y hy => .inl hy), fun k hk => by
      rcases HO5.out k hk with h | h
      · exact .inl h
      · right; omega⟩
set_option maxHeartbeats 4000000 in
theorem decAppend_neg (N : Nat) (DV : DivOK N) (b : Nat) (B' n : Nat) (va : Value) (x : Nat → Nat) (B m : Nat) (v : Value) (f : Nat → Value) (w : World) (hn : n ≤ N) (h3 : n ≤ 3)
    (hb : w.heap[b]? = some (.cells #[.int .i8 0, .bool true, .int .i32 0, .bool false, va, .bool false] 69 (0, 0))) (hva : NatV B' w va n x) (hx : ∀ j, j < n → x j < 18446744073709551616) (hnz : n = 0 ∨ x (n - 1) ≠ 0) (hvn : ∀ y ∈ v.ownBlock.toList, y < B' ∨ ∀ ao c, va = .slice ao n c → ∀ a, ao = some a → a.block ≠ y) (hgn : 10 ∉ v.ownBlock.toList)
    (hs : SV (fun _ => True) B w v m f) (hvb : v.ownBlock ≠ some b) (hB : B ≤ w.heap.size) (hm : m ≤ 1000)
    (hG : w.cell? ⟨10, 0, none⟩ = some (.int .i64 8)) :
    Calls Tryz.prog 32 #[.pointer (some ⟨b, 0, none⟩), v, .int .u8 71] w (DecPost (val x n) B w v (m + 1) (appF m f (fun _ => .int .u8 45))) := by
  have d0 : w.cell? ⟨b, 0, none⟩ = some (.int .i8 0) := (cell_of_heap hb 0).trans rfl
  have d1 : w.cell? ⟨b, 1, none⟩ = some (.bool true) := (cell_of_heap hb 1).trans rfl
  have d2 : w.cell? ⟨b, 2, none⟩ = some (.int .i32 0) := (cell_of_heap hb 2).trans rfl
  have HB := hid hb
  have HS := hid hs
  have HV := hid hva
  have HX := hid hx
  have HNZ := hid hnz
  have HG := hid hG
  have HVN := hid hvn
  have HGN := hid hgn
  clear hvn hgn
  clear hb hs hva hx hnz hG
  obtain ⟨i5, hi5, hz50, hz51, hz52⟩ := info_parts Tryz.info5
  go_enter Tryz.func32, Tryz.ntmps32
  go_wp2_with (at_builtin; refine wpList_append_sv _ rfl (.tmp 15) (.tmp 16) 40 40 rfl 5 i5 (.int .u8 0) 1 Tryz.underlying40 hi5 hz50 hz51 hz52 rfl (fun _ => True) trivial B m 1 _ _ f (fun _ => .int .u8 45) rfl (HS.out.alloc _) rfl (Src.one _ 40 5 5 _ Tryz.underlying40 rfl) (by omega) (by omega) (by simp; omega) ?_)
  intro v1 w1 hv1 hk1 ho1
  have hkA := (Kept.refl [] w).alloc (.cells #[.int .u8 45] 5)
  have hk0 := hkA.trans hk1 (ds := v.ownBlock.toList) (by simp) (fun y hy => .inl hy)
  have HO1 : Hid (∀ k, v1.ownBlock = some k → v.ownBlock = some k ∨ w.heap.size ≤ k) := fun k hk => by
    rcases ho1.out k hk with h | h
    · exact .inl h
    · right; omega
  have hsz1 := hk0.size
  have hltb := lt_of_heap HB.out
  have hbn : b ∉ v.ownBlock.toList := by simpa using hvb
  have hb1 := hk0.heap HB.out hbn
  have hva1 : NatV B' w1 va n x := HV.out.kept hk0 HVN.out
  have hg1 := hk0.cellOf HG.out HGN.out
  have hvb1 : v1.ownBlock ≠ some b := fun h => by
    rcases HO1.out b h with h1 | h1
    · exact hvb h1
    · omega
  have e0 : w1.cell? ⟨b, 0, none⟩ = some (.int .i8 0) := (cell_of_heap hb1 0).trans rfl
  have HK0 := hid hk0
  have HS1 := hid hv1
  have HB1 := hid hb1
  have HV1 := hid hva1
  have HG1 := hid hg1
  clear d0 d1 d2 HB HS HV HG HVN HGN hkA hk0 hv1 hb1 hva1 hg1 hbn hk1 ho1
  go_wp2
  change Code.wp _ _ _ _ (w1.alloc (.cells (Array.replicate 16 (.int .u8 0)) 84))
  have hkA := (Kept.refl [] w1).alloc (.cells (Array.replicate 16 (.int .u8 0)) 84)
  have hA := allocArr w1 f
  have hlt := lt_of_heap HB1.out
  have hzA : (w1.alloc (.cells (Array.replicate 16 (.int .u8 0)) 84)).heap.size = w1.heap.size + 1 := by simp
  generalize (w1.alloc (.cells (Array.replicate 16 (.int .u8 0)) 84)) = W2 at *
  have hb2 := hid (hkA.heap HB1.out (by simp))
  have hs2 := hid (HS1.out.kept hkA (by simp))
  have hv2 := hid (HV1.out.kept hkA (by simp))
  have hg2 := hid (hkA.cellOf HG1.out (by simp))
  have HA := hid hA
  have HKA := hid hkA
  have HVO := HV1
  clear e0 HB1 HV1 HG1 hA hkA
  go_region_with (go_at_call 41; refine (bigAppend_any N DV b 3 _ 69 (0, 0) B' n va x w1.heap.size 0 _ _ W2.drew hn h3 hb2.out rfl rfl hv2.out.drew HX.out HNZ.out HA.out.drew (by simp; omega) (by omega) hg2.out).mono ?_; rintro e w3 ⟨D, v3, rfl, hD1, hD2, hD3, hD4, hv3, hk3, ho3⟩)
  have hk3' := hk3.ofDrew
  have hk3s := hk3'.size
  simp only [Value.ownBlock, Option.toList_some] at hk3'
  have hb3 := hk3'.heap hb2.out (by simp; omega)
  have hs3 := hs2.out.kept hk3' (by simp; intro h; have := HS1.out.own_lt h; omega)
  have e0 : w3.cell? ⟨b, 0, none⟩ = some (.int .i8 0) := (cell_of_heap hb3 0).trans rfl
  have e1 : w3.cell? ⟨b, 1, none⟩ = some (.bool true) := (cell_of_heap hb3 1).trans rfl
  have e2 : w3.cell? ⟨b, 2, none⟩ = some (.int .i32 0) := (cell_of_heap hb3 2).trans rfl
  obtain ⟨ao, c3, rfl⟩ := hv3.shape
  have hv3' : SV (fun _ => True) w1.heap.size w3 (Value.slice ao D c3) D (digF (val x n) D) := by
    have := hv3.congr (f' := digF (val x n) D) fun j hj => appF_zero _ _ j
    rwa [Nat.zero_add] at this
  have hv3n := hv2.out.kept hk3' (fun y hy => .inr fun ao c e a ha => by have h1 := HVO.out.own_lt e ha; simp at hy; subst hy; exact Nat.ne_of_lt h1)
  have HV3N := hid hv3n
  have HB3 := hid hb3
  have HS3 := hid hs3
  have HV3 := hid hv3'
  have HK3 := hid hk3'
  have HD3 := hid hD3
  have HD4 := hid hD4
  clear hb2 hs2 hv2 hg2 HA hk3 hk3' hv3 hv3' hv3n hb3 hs3 hD3 hD4 ho3
  rw [Nat.zero_add]
  go_wp2_with (go_at_call 44; refine (bigBitLen_any B' n b 3 _ 69 (0, 0) va x w3 (by omega) HB3.out rfl HV3N.out HX.out HNZ.out).mono ?_; rintro e w4 ⟨bl, rfl, hbl, hbl2, rfl⟩; clear hbl hbl2)
  all_goals
    refine (fmtF_zero b _ 69 B (m + 1) D w1.heap.size v1 _ (appF m f (fun _ => .int .u8 45)) (digF (val x n) D) w4 HB3.out rfl hvb1 HS3.out HV3.out (fun j _ => rfl) (by omega) (by omega) (by omega)).mono ?_
    rintro e w5 ⟨v5, rfl, hv5, hk5, ho5⟩
    have HV5 := hid hv5
    have HK5 := hid hk5
    have HO5 := hid ho5
    clear hv5 hk5 ho5
    go_wp2
    go_ret
    have hkk := ((HKA.out.trans HK3.out (ds := []) (by simp) (by simp)).trans HK5.out (ds := v1.ownBlock.toList) (by simp) (fun y hy => .inl hy))
    exact ⟨D, v5, rfl, hD1, hD2, HD3.out, HD4.out, HV5.out, HK0.out.trans hkk (fun y hy => .inl hy) (fun y hy => by
      simp at hy
      rcases HO1.out y hy with h | h
      · left; simpa using h
      · exact .inr h), fun k hk => by
      rcases HO5.out k hk with h | h
      · exact HO1.out k h
      · right; omega⟩
end Go.Proofs.YtofmickjbpkgbaaGreatDoor
