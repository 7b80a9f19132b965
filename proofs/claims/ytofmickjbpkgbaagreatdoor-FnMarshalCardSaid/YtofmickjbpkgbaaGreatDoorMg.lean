import Derived.Test.YtofmickjbpkgbaaGreatDoorMf
import Derived.Test.YtofmickjbpkgbaaGreatDoorMe
set_option maxRecDepth 100000
namespace Go.Proofs.YtofmickjbpkgbaaGreatDoor
section
open Go.RowKit

/-- What Append with the verb G leaves of a finite decimal. -/
def DecL (neg : Bool) (V : Nat) (ex : Int) (B : Nat) (w : World) (v : Value) (l : List UInt8) (e : Ending) (w' : World) : Prop :=
  ∃ D, 1 ≤ D ∧ D ≤ 60 ∧ V < 10 ^ D ∧ (D = 1 ∨ 10 ^ (D - 1) ≤ V) ∧ AddL B w v l (sgnL neg ++ (decShape V D ex).list 69) e w'

theorem lead_le {V D : Nat} (h : D = 1 ∨ 10 ^ (D - 1) ≤ V) (hV : V < 2 ^ 192) : D ≤ 60 := by
  rcases h with h | h
  · omega
  · rcases Nat.lt_or_ge 60 D with h1 | h1
    · exfalso
      have := pow10_le' 60 (D - 1) (by omega)
      have h2 : (2 : Nat) ^ 192 < 10 ^ 60 := by decide
      omega
    · exact h1
  where pow10_le' (n m : Nat) (h : n ≤ m) : 10 ^ n ≤ 10 ^ m := Nat.pow_le_pow_right (by omega) h

theorem BS.nil (B : Nat) (w : World) (v : Value) {f : Nat → Value} (h : SV (fun _ => True) B w v 0 f) : BS B w v [] := h.congr fun j hj => by omega

theorem BS.ofDig {B D V : Nat} {w : World} {v : Value} (h : SV (fun _ => True) B w v D (digF V D)) : BS B w v (digL V D) := by
  unfold BS
  rw [digL_length]
  exact h.congr fun j hj => digF_bytes V D j hj

set_option maxHeartbeats 8000000 in
theorem decAppendG_pos (N : Nat) (DV : DivOK N) (b : Nat) (ex : Int) (B' n : Nat) (va : Value) (x : Nat → Nat) (B : Nat) (v : Value) (l : List UInt8) (w : World) (hn : n ≤ N) (h3 : n ≤ 3) (hex : -100 ≤ ex ∧ ex ≤ 100)
    (hb : w.heap[b]? = some (.cells #[.int .i8 0, .bool false, .int .i32 ex, .bool false, va, .bool false] 69 (0, 0))) (hva : NatV B' w va n x) (hx : ∀ j, j < n → x j < 18446744073709551616) (hnz : n = 0 ∨ x (n - 1) ≠ 0)
    (hs : BS B w v l) (hvb : v.ownBlock ≠ some b) (hvn : v.ownBlock = none ∨ v.ownBlock ≠ va.ownBlock) (hB : B ≤ w.heap.size) (hm : l.length ≤ 900)
    (htab : ∀ w', (∀ k, k < 20 → w'.heap[k]? = w.heap[k]?) → Lib.TabIs Tryz.prog w' "internal/strconv.uint64pow10" .u64 Lib.pow10Tab) (hv20 : ∀ k, v.ownBlock = some k → 20 ≤ k) (hw20 : 20 ≤ w.heap.size)
    (hG : w.cell? ⟨10, 0, none⟩ = some (.int .i64 8)) :
    Calls Tryz.prog 32 #[.pointer (some ⟨b, 0, none⟩), v, .int .u8 71] w (DecL false (val x n) ex B w v l) := by
  have d0 : w.cell? ⟨b, 0, none⟩ = some (.int .i8 0) := (cell_of_heap hb 0).trans rfl
  have d1 : w.cell? ⟨b, 1, none⟩ = some (.bool false) := (cell_of_heap hb 1).trans rfl
  have HB0 := hid hb
  have HS0 := hid hs
  have HV0 := hid hva
  have HX := hid hx
  have HNZ := hid hnz
  have HG0 := hid hG
  have HT := hid htab
  have HV20 := hid hv20
  have HVN := hid hvn
  have HVB := hid hvb
  have hlt0 := lt_of_heap hb
  clear hb hs hva hx hnz hG htab hv20 hvn hvb
  have HA1 : Hid (Kept v.ownBlock.toList w w ∧ ∀ k, v.ownBlock = some k → v.ownBlock = some k ∨ w.heap.size ≤ k) := ⟨Kept.refl _ _, fun k hk => .inl hk⟩
  have hsz1 : w.heap.size ≤ w.heap.size := Nat.le_refl _
  have HS := HS0
  have HB := HB0
  have HV := HV0
  have HG := HG0
  have HVB1 := HVB
  go_enter Tryz.func32, Tryz.ntmps32
  go_wp2
  change Code.wp _ _ _ _ (w.alloc (.cells (Array.replicate 16 (.int .u8 0)) 84))
  have hkA := (Kept.refl [] w).alloc (.cells (Array.replicate 16 (.int .u8 0)) 84)
  have hA := allocArr w (fun _ => .nilIface)
  have hlt := lt_of_heap HB.out
  have hzA : (w.alloc (.cells (Array.replicate 16 (.int .u8 0)) 84)).heap.size = w.heap.size + 1 := by simp
  generalize (w.alloc (.cells (Array.replicate 16 (.int .u8 0)) 84)) = W2 at *
  have hb2 := hid (hkA.heap HB.out (by simp))
  have hs2 := hid (HS.out.kept hkA (by simp))
  have hv2 := hid (HV.out.kept hkA (by simp))
  have hg2 := hid (hkA.cellOf HG.out (by simp))
  have HA := hid hA
  have HKA := hid hkA
  have HVO := HV
  clear d0 d1 HB HV HG hA hkA
  go_region_with (go_at_call 41; refine (bigAppend_any N DV b 3 _ 69 (0, 0) B' n va x w.heap.size 0 _ _ W2.drew hn h3 hb2.out rfl rfl hv2.out.drew HX.out HNZ.out HA.out.drew (by simp; omega) (by omega) hg2.out).mono ?_; rintro e w3 ⟨D, v3, rfl, hD1, hD2, hD3, hD4, hv3, hk3, ho3⟩)
  have hk3' := hk3.ofDrew
  have hk3s := hk3'.size
  simp only [Value.ownBlock, Option.toList_some] at hk3'
  have hb3 := hk3'.heap hb2.out (by simp; omega)
  have hs3 := hs2.out.kept hk3' (by simp; intro h; have := HS.out.own_lt h; omega)
  have e0 : w3.cell? ⟨b, 0, none⟩ = some (.int .i8 0) := (cell_of_heap hb3 0).trans rfl
  have e1 : w3.cell? ⟨b, 1, none⟩ = some (.bool false) := (cell_of_heap hb3 1).trans rfl
  have e2 : w3.cell? ⟨b, 2, none⟩ = some (.int .i32 ex) := (cell_of_heap hb3 2).trans rfl
  obtain ⟨ao, c3, rfl⟩ := hv3.shape
  have hv3' : BS w.heap.size w3 (Value.slice ao D c3) (digL (val x n) D) := by
    have := hv3.congr (f' := digF (val x n) D) fun j hj => appF_zero _ _ j
    rw [Nat.zero_add] at this
    exact BS.ofDig this
  have hv3n := hv2.out.kept hk3' (fun y hy => .inr fun ao c e a ha => by have h1 := HVO.out.own_lt e ha; simp at hy; subst hy; exact Nat.ne_of_lt h1)
  have HVD : Hid (v.ownBlock = none ∨ v.ownBlock ≠ (Value.slice ao D c3).ownBlock) := by
    right
    intro h
    cases ho : (Value.slice ao D c3).ownBlock with
    | none =>
      rcases hv3' with ⟨h2, h3⟩ | ⟨g', c', t', h2, _⟩
      · rw [digL_length] at h3; omega
      · rw [h2] at ho; simp [Value.ownBlock] at ho
    | some k =>
      rw [ho] at h
      have h1 := BS.own_ge hv3' ho
      have h2 := HS.out.own_lt h
      omega
  have hval : val x n < 2 ^ 192 := by
    have h1 := val_lt x n HX.out
    have h2 : (2 : Nat) ^ (64 * n) ≤ 2 ^ 192 := Nat.pow_le_pow_right (by omega) (by omega)
    omega
  have hD60 := lead_le hD4 hval
  have HV3N := hid hv3n
  have HB3 := hid hb3
  have HS3 := hid hs3
  have HV3 := hid hv3'
  have HK3 := hid (HA1.out.1.trans (HKA.out.trans hk3' (ds := []) (by simp) (by simp)) (fun y hy => .inl hy) (by simp))
  have HD3 := hid hD3
  have HD4 := hid hD4
  clear hb2 hs2 hv2 hg2 HA hk3 hk3' hv3 hv3' hv3n hb3 hs3 hD3 hD4 ho3 hval
  rw [Nat.zero_add]
  have HDL : Hid (1 ≤ (digL (val x n) D).length ∧ (digL (val x n) D).length ≤ 60) := by unfold Hid; rw [digL_length]; omega
  rcases (by omega : (val x n = 0 ∧ ex < 0) ∨ (¬ (val x n = 0 ∧ ex < 0) ∧ ex ≤ 0 ∧ -6 ≤ ex + (D : Int) - 1) ∨ (¬ (val x n = 0 ∧ ex < 0) ∧ ex ≤ 0 ∧ ¬ -6 ≤ ex + (D : Int) - 1) ∨ (¬ (val x n = 0 ∧ ex < 0) ∧ 0 < ex)) with ⟨hV0, hex0⟩ | ⟨hc, h1, h2⟩ | ⟨hc, h1, h2⟩ | ⟨hc, h1⟩
  · have HGT : Hid (gTest (val x n) D ex) := by
      refine ⟨by omega, ?_⟩
      rw [if_pos ⟨hV0, hex0⟩]; omega
    have HVZ := hid hV0
    clear hV0
    go_wp2_with (go_at_call 44; refine (bigBitLen_any B' n b 3 _ 69 (0, 0) va x w3 (by omega) HB3.out rfl HV3N.out HX.out HNZ.out).mono ?_; rintro e w4 ⟨bl, rfl, hbl, hbl2, rfl⟩; obtain rfl : bl = 0 := hbl.2 HVZ.out; clear hbl; clear hbl2)
    refine (fmtF_any b _ 69 B w.heap.size ex v _ l (digL (val x n) D) _ HB3.out rfl (by omega) HDL.out.1 (by have := HDL.out.2; omega) HVB1.out HS3.out HV3.out HVD.out (by omega) (by first | (simp; omega) | omega)).mono ?_
    rintro e w5 ⟨v5, rfl, hv5, hk5, ho5⟩
    have HV5 := hid hv5
    have HA5 := hid (AddL.next HK3.out HA1.out.2 hk5 ho5)
    clear hv5 hk5 ho5
    go_wp2
    go_ret
    exact ⟨D, hD1, hD60, HD3.out, HD4.out, v5, rfl, by rw [decShape_f _ _ _ HGT.out]; simpa [sgnL] using HV5.out, HA5.out.1, HA5.out.2⟩
  · have HGT : Hid (gTest (val x n) D ex) := by
      refine ⟨by omega, ?_⟩
      rw [if_neg hc]; omega
    have HVZ := hid hc
    clear hc
    by_cases hz : val x n = 0
    · have hex1 : ¬ ex < 0 := fun h => HVZ.out ⟨hz, h⟩
      have hex2 : ex = 0 := by omega
      subst hex2
      have HZ := hid hz
      clear hz
      go_wp2_with (go_at_call 44; refine (bigBitLen_any B' n b 3 _ 69 (0, 0) va x w3 (by omega) HB3.out rfl HV3N.out HX.out HNZ.out).mono ?_; rintro e w4 ⟨bl, rfl, hbl, hbl2, rfl⟩; obtain rfl : bl = 0 := hbl.2 HZ.out; clear hbl; clear hbl2)
      refine (fmtF_any b _ 69 B w.heap.size 0 v _ l (digL (val x n) D) _ HB3.out rfl (by omega) HDL.out.1 (by have := HDL.out.2; omega) HVB1.out HS3.out HV3.out HVD.out (by omega) (by first | (simp; omega) | omega)).mono ?_
      rintro e w5 ⟨v5, rfl, hv5, hk5, ho5⟩
      have HV5 := hid hv5
      have HA5 := hid (AddL.next HK3.out HA1.out.2 hk5 ho5)
      clear hv5 hk5 ho5
      go_wp2
      go_ret
      exact ⟨D, hD1, hD60, HD3.out, HD4.out, v5, rfl, by rw [decShape_f _ _ _ HGT.out]; simpa [sgnL] using HV5.out, HA5.out.1, HA5.out.2⟩
    · have HZ := hid hz
      clear hz
      go_wp2_with (go_at_call 44; refine (bigBitLen_any B' n b 3 _ 69 (0, 0) va x w3 (by omega) HB3.out rfl HV3N.out HX.out HNZ.out).mono ?_; rintro e w4 ⟨bl, rfl, hbl, hbl2, rfl⟩; have hb0 : ¬ bl = 0 := fun h => HZ.out (hbl.1 h); clear hbl; clear hbl2)
      refine (fmtF_any b _ 69 B w.heap.size ex v _ l (digL (val x n) D) _ HB3.out rfl (by omega) HDL.out.1 (by have := HDL.out.2; omega) HVB1.out HS3.out HV3.out HVD.out (by omega) (by first | (simp; omega) | omega)).mono ?_
      rintro e w5 ⟨v5, rfl, hv5, hk5, ho5⟩
      have HV5 := hid hv5
      have HA5 := hid (AddL.next HK3.out HA1.out.2 hk5 ho5)
      clear hv5 hk5 ho5
      go_wp2
      go_ret
      exact ⟨D, hD1, hD60, HD3.out, HD4.out, v5, rfl, by rw [decShape_f _ _ _ HGT.out]; simpa [sgnL] using HV5.out, HA5.out.1, HA5.out.2⟩
  · have HGT : Hid (¬ gTest (val x n) D ex) := by
      rintro ⟨_, h⟩
      rw [if_neg hc] at h; omega
    have HVZ := hid hc
    clear hc
    have hex3 : ex < 0 := by omega
    have HZ : Hid (val x n ≠ 0) := fun hz => HVZ.out ⟨hz, hex3⟩
    go_wp2_with (go_at_call 44; refine (bigBitLen_any B' n b 3 _ 69 (0, 0) va x w3 (by omega) HB3.out rfl HV3N.out HX.out HNZ.out).mono ?_; rintro e w4 ⟨bl, rfl, hbl, hbl2, rfl⟩; have hb0 : ¬ bl = 0 := fun h => HZ.out (hbl.1 h); clear hbl; clear hbl2)
    refine (fmtE_any b _ 69 B w.heap.size ex v _ l (digL (val x n) D) _ HB3.out rfl (by omega) HDL.out.1 HDL.out.2 HS3.out HV3.out HVD.out (by omega) (by first | (simp; omega) | omega) (fun w' h => HT.out w' fun k hk => (h k hk).trans (HK3.out.block k (by omega) (fun hm => by have := HV20.out k (by simpa using hm); omega))) (fun k hk => by
      rcases HA1.out.2 k hk with h | h
      · exact HV20.out k h
      · omega) (by omega)).mono ?_
    rintro e w5 ⟨v5, rfl, hv5, hk5, ho5⟩
    have HV5 := hid hv5
    have HA5 := hid (AddL.next HK3.out HA1.out.2 hk5 ho5)
    clear hv5 hk5 ho5
    go_wp2
    go_ret
    exact ⟨D, hD1, hD60, HD3.out, HD4.out, v5, rfl, by rw [decShape_e _ _ _ HGT.out hD1]; simpa [sgnL] using HV5.out, HA5.out.1, HA5.out.2⟩
  · have HGT : Hid (¬ gTest (val x n) D ex) := by
      rintro ⟨h, _⟩
      omega
    have HVZ := hid hc
    clear hc
    by_cases hz : val x n = 0
    · have HZ := hid hz
      clear hz
      go_wp2_with (go_at_call 44; refine (bigBitLen_any B' n b 3 _ 69 (0, 0) va x w3 (by omega) HB3.out rfl HV3N.out HX.out HNZ.out).mono ?_; rintro e w4 ⟨bl, rfl, hbl, hbl2, rfl⟩; obtain rfl : bl = 0 := hbl.2 HZ.out; clear hbl; clear hbl2)
      refine (fmtE_any b _ 69 B w.heap.size ex v _ l (digL (val x n) D) _ HB3.out rfl (by omega) HDL.out.1 HDL.out.2 HS3.out HV3.out HVD.out (by omega) (by first | (simp; omega) | omega) (fun w' h => HT.out w' fun k hk => (h k hk).trans (HK3.out.block k (by omega) (fun hm => by have := HV20.out k (by simpa using hm); omega))) (fun k hk => by
        rcases HA1.out.2 k hk with h | h
        · exact HV20.out k h
        · omega) (by omega)).mono ?_
      rintro e w5 ⟨v5, rfl, hv5, hk5, ho5⟩
      have HV5 := hid hv5
      have HA5 := hid (AddL.next HK3.out HA1.out.2 hk5 ho5)
      clear hv5 hk5 ho5
      go_wp2
      go_ret
      exact ⟨D, hD1, hD60, HD3.out, HD4.out, v5, rfl, by rw [decShape_e _ _ _ HGT.out hD1]; simpa [sgnL] using HV5.out, HA5.out.1, HA5.out.2⟩
    · have HZ := hid hz
      clear hz
      go_wp2_with (go_at_call 44; refine (bigBitLen_any B' n b 3 _ 69 (0, 0) va x w3 (by omega) HB3.out rfl HV3N.out HX.out HNZ.out).mono ?_; rintro e w4 ⟨bl, rfl, hbl, hbl2, rfl⟩; have hb0 : ¬ bl = 0 := fun h => HZ.out (hbl.1 h); clear hbl; clear hbl2)
      refine (fmtE_any b _ 69 B w.heap.size ex v _ l (digL (val x n) D) _ HB3.out rfl (by omega) HDL.out.1 HDL.out.2 HS3.out HV3.out HVD.out (by omega) (by first | (simp; omega) | omega) (fun w' h => HT.out w' fun k hk => (h k hk).trans (HK3.out.block k (by omega) (fun hm => by have := HV20.out k (by simpa using hm); omega))) (fun k hk => by
        rcases HA1.out.2 k hk with h | h
        · exact HV20.out k h
        · omega) (by omega)).mono ?_
      rintro e w5 ⟨v5, rfl, hv5, hk5, ho5⟩
      have HV5 := hid hv5
      have HA5 := hid (AddL.next HK3.out HA1.out.2 hk5 ho5)
      clear hv5 hk5 ho5
      go_wp2
      go_ret
      exact ⟨D, hD1, hD60, HD3.out, HD4.out, v5, rfl, by rw [decShape_e _ _ _ HGT.out hD1]; simpa [sgnL] using HV5.out, HA5.out.1, HA5.out.2⟩

set_option maxHeartbeats 8000000 in
theorem decAppendG_neg (N : Nat) (DV : DivOK N) (b : Nat) (ex : Int) (B' n : Nat) (va : Value) (x : Nat → Nat) (B : Nat) (v : Value) (l : List UInt8) (w : World) (hn : n ≤ N) (h3 : n ≤ 3) (hex : -100 ≤ ex ∧ ex ≤ 100)
    (hb : w.heap[b]? = some (.cells #[.int .i8 0, .bool true, .int .i32 ex, .bool false, va, .bool false] 69 (0, 0))) (hva : NatV B' w va n x) (hx : ∀ j, j < n → x j < 18446744073709551616) (hnz : n = 0 ∨ x (n - 1) ≠ 0)
    (hs : BS B w v l) (hvb : v.ownBlock ≠ some b) (hvn : v.ownBlock = none ∨ v.ownBlock ≠ va.ownBlock) (hB : B ≤ w.heap.size) (hm : l.length ≤ 900)
    (htab : ∀ w', (∀ k, k < 20 → w'.heap[k]? = w.heap[k]?) → Lib.TabIs Tryz.prog w' "internal/strconv.uint64pow10" .u64 Lib.pow10Tab) (hv20 : ∀ k, v.ownBlock = some k → 20 ≤ k) (hw20 : 20 ≤ w.heap.size)
    (hG : w.cell? ⟨10, 0, none⟩ = some (.int .i64 8)) :
    Calls Tryz.prog 32 #[.pointer (some ⟨b, 0, none⟩), v, .int .u8 71] w (DecL true (val x n) ex B w v l) := by
  have d0 : w.cell? ⟨b, 0, none⟩ = some (.int .i8 0) := (cell_of_heap hb 0).trans rfl
  have d1 : w.cell? ⟨b, 1, none⟩ = some (.bool true) := (cell_of_heap hb 1).trans rfl
  have HB0 := hid hb
  have HS0 := hid hs
  have HV0 := hid hva
  have HX := hid hx
  have HNZ := hid hnz
  have HG0 := hid hG
  have HT := hid htab
  have HV20 := hid hv20
  have HVN := hid hvn
  have HVB := hid hvb
  have hlt0 := lt_of_heap hb
  clear hb hs hva hx hnz hG htab hv20 hvn hvb
  obtain ⟨i5, hi5, hz50, hz51, hz52⟩ := info_parts Tryz.info5
  go_enter Tryz.func32, Tryz.ntmps32
  go_wp2_with (at_builtin; refine wpList_append_bs _ rfl (.tmp 15) (.tmp 16) 40 40 rfl 5 i5 (.int .u8 0) Tryz.underlying40 hi5 hz50 hz51 hz52 rfl B _ _ l [45] rfl (HS0.out.alloc _) rfl (Src.oneB _ 40 5 5 45 45 rfl Tryz.underlying40) (by simp; omega) (by simp; omega) ?_)
  intro v1 w1 hv1 hk1 ho1
  have hA1 := hold_one (Kept.refl v.ownBlock.toList w) (fun k hk => .inl hk) hk1 ho1.out
  have HA1 := hid hA1
  have hsz1 := hA1.1.size
  have HS := hid hv1
  have HB := hid (hA1.1.heap HB0.out (by simpa using HVB.out))
  have hva1 : NatV B' w1 va n x := HV0.out.kept hA1.1 (fun y hy => .inr fun ao c e a ha hab => by
    rcases HVN.out with h | h
    · rw [h] at hy; simp at hy
    · subst e ha hab
      exact h ((by simpa using hy : v.ownBlock = some a.block).trans rfl))
  have HV := hid hva1
  have HG := hid (hA1.1.cellOf HG0.out (by
    simp
    intro h
    have := HV20.out 10 h
    omega))
  have e0' : w1.cell? ⟨b, 0, none⟩ = some (.int .i8 0) := (cell_of_heap HB.out 0).trans rfl
  have HVB1 : Hid (v1.ownBlock ≠ some b) := fun h => by
    rcases HA1.out.2 b h with h | h
    · exact HVB.out h
    · omega
  clear d0 d1 hA1 hv1 hk1 ho1 hva1
  go_wp2
  change Code.wp _ _ _ _ (w1.alloc (.cells (Array.replicate 16 (.int .u8 0)) 84))
  have hkA := (Kept.refl [] w1).alloc (.cells (Array.replicate 16 (.int .u8 0)) 84)
  have hA := allocArr w1 (fun _ => .nilIface)
  have hlt := lt_of_heap HB.out
  have hzA : (w1.alloc (.cells (Array.replicate 16 (.int .u8 0)) 84)).heap.size = w1.heap.size + 1 := by simp
  generalize (w1.alloc (.cells (Array.replicate 16 (.int .u8 0)) 84)) = W2 at *
  have hb2 := hid (hkA.heap HB.out (by simp))
  have hs2 := hid (HS.out.kept hkA (by simp))
  have hv2 := hid (HV.out.kept hkA (by simp))
  have hg2 := hid (hkA.cellOf HG.out (by simp))
  have HA := hid hA
  have HKA := hid hkA
  have HVO := HV
  clear e0' HB HV HG hA hkA
  go_region_with (go_at_call 41; refine (bigAppend_any N DV b 3 _ 69 (0, 0) B' n va x w1.heap.size 0 _ _ W2.drew hn h3 hb2.out rfl rfl hv2.out.drew HX.out HNZ.out HA.out.drew (by simp; omega) (by omega) hg2.out).mono ?_; rintro e w3 ⟨D, v3, rfl, hD1, hD2, hD3, hD4, hv3, hk3, ho3⟩)
  have hk3' := hk3.ofDrew
  have hk3s := hk3'.size
  simp only [Value.ownBlock, Option.toList_some] at hk3'
  have hb3 := hk3'.heap hb2.out (by simp; omega)
  have hs3 := hs2.out.kept hk3' (by simp; intro h; have := HS.out.own_lt h; omega)
  have e0 : w3.cell? ⟨b, 0, none⟩ = some (.int .i8 0) := (cell_of_heap hb3 0).trans rfl
  have e1 : w3.cell? ⟨b, 1, none⟩ = some (.bool true) := (cell_of_heap hb3 1).trans rfl
  have e2 : w3.cell? ⟨b, 2, none⟩ = some (.int .i32 ex) := (cell_of_heap hb3 2).trans rfl
  obtain ⟨ao, c3, rfl⟩ := hv3.shape
  have hv3' : BS w1.heap.size w3 (Value.slice ao D c3) (digL (val x n) D) := by
    have := hv3.congr (f' := digF (val x n) D) fun j hj => appF_zero _ _ j
    rw [Nat.zero_add] at this
    exact BS.ofDig this
  have hv3n := hv2.out.kept hk3' (fun y hy => .inr fun ao c e a ha => by have h1 := HVO.out.own_lt e ha; simp at hy; subst hy; exact Nat.ne_of_lt h1)
  have HVD : Hid (v1.ownBlock = none ∨ v1.ownBlock ≠ (Value.slice ao D c3).ownBlock) := by
    right
    intro h
    cases ho : (Value.slice ao D c3).ownBlock with
    | none =>
      rcases hv3' with ⟨h2, h3⟩ | ⟨g', c', t', h2, _⟩
      · rw [digL_length] at h3; omega
      · rw [h2] at ho; simp [Value.ownBlock] at ho
    | some k =>
      rw [ho] at h
      have h1 := BS.own_ge hv3' ho
      have h2 := HS.out.own_lt h
      omega
  have hval : val x n < 2 ^ 192 := by
    have h1 := val_lt x n HX.out
    have h2 : (2 : Nat) ^ (64 * n) ≤ 2 ^ 192 := Nat.pow_le_pow_right (by omega) (by omega)
    omega
  have hD60 := lead_le hD4 hval
  have HV3N := hid hv3n
  have HB3 := hid hb3
  have HS3 := hid hs3
  have HV3 := hid hv3'
  have HK3 := hid (HA1.out.1.trans (HKA.out.trans hk3' (ds := []) (by simp) (by simp)) (fun y hy => .inl hy) (by simp))
  have HD3 := hid hD3
  have HD4 := hid hD4
  clear hb2 hs2 hv2 hg2 HA hk3 hk3' hv3 hv3' hv3n hb3 hs3 hD3 hD4 ho3 hval
  rw [Nat.zero_add]
  have HDL : Hid (1 ≤ (digL (val x n) D).length ∧ (digL (val x n) D).length ≤ 60) := by unfold Hid; rw [digL_length]; omega
  rcases (by omega : (val x n = 0 ∧ ex < 0) ∨ (¬ (val x n = 0 ∧ ex < 0) ∧ ex ≤ 0 ∧ -6 ≤ ex + (D : Int) - 1) ∨ (¬ (val x n = 0 ∧ ex < 0) ∧ ex ≤ 0 ∧ ¬ -6 ≤ ex + (D : Int) - 1) ∨ (¬ (val x n = 0 ∧ ex < 0) ∧ 0 < ex)) with ⟨hV0, hex0⟩ | ⟨hc, h1, h2⟩ | ⟨hc, h1, h2⟩ | ⟨hc, h1⟩
  · have HGT : Hid (gTest (val x n) D ex) := by
      refine ⟨by omega, ?_⟩
      rw [if_pos ⟨hV0, hex0⟩]; omega
    have HVZ := hid hV0
    clear hV0
    go_wp2_with (go_at_call 44; refine (bigBitLen_any B' n b 3 _ 69 (0, 0) va x w3 (by omega) HB3.out rfl HV3N.out HX.out HNZ.out).mono ?_; rintro e w4 ⟨bl, rfl, hbl, hbl2, rfl⟩; obtain rfl : bl = 0 := hbl.2 HVZ.out; clear hbl; clear hbl2)
    refine (fmtF_any b _ 69 B w1.heap.size ex v1 _ (l ++ [45]) (digL (val x n) D) _ HB3.out rfl (by omega) HDL.out.1 (by have := HDL.out.2; omega) HVB1.out HS3.out HV3.out HVD.out (by omega) (by first | (simp; omega) | omega)).mono ?_
    rintro e w5 ⟨v5, rfl, hv5, hk5, ho5⟩
    have HV5 := hid hv5
    have HA5 := hid (AddL.next HK3.out HA1.out.2 hk5 ho5)
    clear hv5 hk5 ho5
    go_wp2
    go_ret
    exact ⟨D, hD1, hD60, HD3.out, HD4.out, v5, rfl, by rw [decShape_f _ _ _ HGT.out]; simpa [sgnL] using HV5.out, HA5.out.1, HA5.out.2⟩
  · have HGT : Hid (gTest (val x n) D ex) := by
      refine ⟨by omega, ?_⟩
      rw [if_neg hc]; omega
    have HVZ := hid hc
    clear hc
    by_cases hz : val x n = 0
    · have hex1 : ¬ ex < 0 := fun h => HVZ.out ⟨hz, h⟩
      have hex2 : ex = 0 := by omega
      subst hex2
      have HZ := hid hz
      clear hz
      go_wp2_with (go_at_call 44; refine (bigBitLen_any B' n b 3 _ 69 (0, 0) va x w3 (by omega) HB3.out rfl HV3N.out HX.out HNZ.out).mono ?_; rintro e w4 ⟨bl, rfl, hbl, hbl2, rfl⟩; obtain rfl : bl = 0 := hbl.2 HZ.out; clear hbl; clear hbl2)
      refine (fmtF_any b _ 69 B w1.heap.size 0 v1 _ (l ++ [45]) (digL (val x n) D) _ HB3.out rfl (by omega) HDL.out.1 (by have := HDL.out.2; omega) HVB1.out HS3.out HV3.out HVD.out (by omega) (by first | (simp; omega) | omega)).mono ?_
      rintro e w5 ⟨v5, rfl, hv5, hk5, ho5⟩
      have HV5 := hid hv5
      have HA5 := hid (AddL.next HK3.out HA1.out.2 hk5 ho5)
      clear hv5 hk5 ho5
      go_wp2
      go_ret
      exact ⟨D, hD1, hD60, HD3.out, HD4.out, v5, rfl, by rw [decShape_f _ _ _ HGT.out]; simpa [sgnL] using HV5.out, HA5.out.1, HA5.out.2⟩
    · have HZ := hid hz
      clear hz
      go_wp2_with (go_at_call 44; refine (bigBitLen_any B' n b 3 _ 69 (0, 0) va x w3 (by omega) HB3.out rfl HV3N.out HX.out HNZ.out).mono ?_; rintro e w4 ⟨bl, rfl, hbl, hbl2, rfl⟩; have hb0 : ¬ bl = 0 := fun h => HZ.out (hbl.1 h); clear hbl; clear hbl2)
      refine (fmtF_any b _ 69 B w1.heap.size ex v1 _ (l ++ [45]) (digL (val x n) D) _ HB3.out rfl (by omega) HDL.out.1 (by have := HDL.out.2; omega) HVB1.out HS3.out HV3.out HVD.out (by omega) (by first | (simp; omega) | omega)).mono ?_
      rintro e w5 ⟨v5, rfl, hv5, hk5, ho5⟩
      have HV5 := hid hv5
      have HA5 := hid (AddL.next HK3.out HA1.out.2 hk5 ho5)
      clear hv5 hk5 ho5
      go_wp2
      go_ret
      exact ⟨D, hD1, hD60, HD3.out, HD4.out, v5, rfl, by rw [decShape_f _ _ _ HGT.out]; simpa [sgnL] using HV5.out, HA5.out.1, HA5.out.2⟩
  · have HGT : Hid (¬ gTest (val x n) D ex) := by
      rintro ⟨_, h⟩
      rw [if_neg hc] at h; omega
    have HVZ := hid hc
    clear hc
    have hex3 : ex < 0 := by omega
    have HZ : Hid (val x n ≠ 0) := fun hz => HVZ.out ⟨hz, hex3⟩
    go_wp2_with (go_at_call 44; refine (bigBitLen_any B' n b 3 _ 69 (0, 0) va x w3 (by omega) HB3.out rfl HV3N.out HX.out HNZ.out).mono ?_; rintro e w4 ⟨bl, rfl, hbl, hbl2, rfl⟩; have hb0 : ¬ bl = 0 := fun h => HZ.out (hbl.1 h); clear hbl; clear hbl2)
    refine (fmtE_any b _ 69 B w1.heap.size ex v1 _ (l ++ [45]) (digL (val x n) D) _ HB3.out rfl (by omega) HDL.out.1 HDL.out.2 HS3.out HV3.out HVD.out (by omega) (by first | (simp; omega) | omega) (fun w' h => HT.out w' fun k hk => (h k hk).trans (HK3.out.block k (by omega) (fun hm => by have := HV20.out k (by simpa using hm); omega))) (fun k hk => by
      rcases HA1.out.2 k hk with h | h
      · exact HV20.out k h
      · omega) (by omega)).mono ?_
    rintro e w5 ⟨v5, rfl, hv5, hk5, ho5⟩
    have HV5 := hid hv5
    have HA5 := hid (AddL.next HK3.out HA1.out.2 hk5 ho5)
    clear hv5 hk5 ho5
    go_wp2
    go_ret
    exact ⟨D, hD1, hD60, HD3.out, HD4.out, v5, rfl, by rw [decShape_e _ _ _ HGT.out hD1]; simpa [sgnL] using HV5.out, HA5.out.1, HA5.out.2⟩
  · have HGT : Hid (¬ gTest (val x n) D ex) := by
      rintro ⟨h, _⟩
      omega
    have HVZ := hid hc
    clear hc
    by_cases hz : val x n = 0
    · have HZ := hid hz
      clear hz
      go_wp2_with (go_at_call 44; refine (bigBitLen_any B' n b 3 _ 69 (0, 0) va x w3 (by omega) HB3.out rfl HV3N.out HX.out HNZ.out).mono ?_; rintro e w4 ⟨bl, rfl, hbl, hbl2, rfl⟩; obtain rfl : bl = 0 := hbl.2 HZ.out; clear hbl; clear hbl2)
      refine (fmtE_any b _ 69 B w1.heap.size ex v1 _ (l ++ [45]) (digL (val x n) D) _ HB3.out rfl (by omega) HDL.out.1 HDL.out.2 HS3.out HV3.out HVD.out (by omega) (by first | (simp; omega) | omega) (fun w' h => HT.out w' fun k hk => (h k hk).trans (HK3.out.block k (by omega) (fun hm => by have := HV20.out k (by simpa using hm); omega))) (fun k hk => by
        rcases HA1.out.2 k hk with h | h
        · exact HV20.out k h
        · omega) (by omega)).mono ?_
      rintro e w5 ⟨v5, rfl, hv5, hk5, ho5⟩
      have HV5 := hid hv5
      have HA5 := hid (AddL.next HK3.out HA1.out.2 hk5 ho5)
      clear hv5 hk5 ho5
      go_wp2
      go_ret
      exact ⟨D, hD1, hD60, HD3.out, HD4.out, v5, rfl, by rw [decShape_e _ _ _ HGT.out hD1]; simpa [sgnL] using HV5.out, HA5.out.1, HA5.out.2⟩
    · have HZ := hid hz
      clear hz
      go_wp2_with (go_at_call 44; refine (bigBitLen_any B' n b 3 _ 69 (0, 0) va x w3 (by omega) HB3.out rfl HV3N.out HX.out HNZ.out).mono ?_; rintro e w4 ⟨bl, rfl, hbl, hbl2, rfl⟩; have hb0 : ¬ bl = 0 := fun h => HZ.out (hbl.1 h); clear hbl; clear hbl2)
      refine (fmtE_any b _ 69 B w1.heap.size ex v1 _ (l ++ [45]) (digL (val x n) D) _ HB3.out rfl (by omega) HDL.out.1 HDL.out.2 HS3.out HV3.out HVD.out (by omega) (by first | (simp; omega) | omega) (fun w' h => HT.out w' fun k hk => (h k hk).trans (HK3.out.block k (by omega) (fun hm => by have := HV20.out k (by simpa using hm); omega))) (fun k hk => by
        rcases HA1.out.2 k hk with h | h
        · exact HV20.out k h
        · omega) (by omega)).mono ?_
      rintro e w5 ⟨v5, rfl, hv5, hk5, ho5⟩
      have HV5 := hid hv5
      have HA5 := hid (AddL.next HK3.out HA1.out.2 hk5 ho5)
      clear hv5 hk5 ho5
      go_wp2
      go_ret
      exact ⟨D, hD1, hD60, HD3.out, HD4.out, v5, rfl, by rw [decShape_e _ _ _ HGT.out hD1]; simpa [sgnL] using HV5.out, HA5.out.1, HA5.out.2⟩
end

section
open Go.RowKit

/-- The word for what is no finite number. -/
def wordL (f : Nat) : List UInt8 := if f = 1 then [73, 110, 102, 105, 110, 105, 116, 121] else [78, 97, 78]

set_option maxHeartbeats 4000000 in
theorem decAppendG_word (f : Nat) (neg : Bool) (b : Nat) (va : Value) (B : Nat) (v : Value) (l : List UInt8) (w : World) (hf : f = 1 ∨ f = 3)
    (hb : w.heap[b]? = some (.cells #[.int .i8 f, .bool neg, .int .i32 0, .bool false, va, .bool false] 69 (0, 0)))
    (hs : BS B w v l) (hvb : v.ownBlock ≠ some b) (hB : B ≤ w.heap.size) (hm : l.length ≤ 900) :
    Calls Tryz.prog 32 #[.pointer (some ⟨b, 0, none⟩), v, .int .u8 71] w (AddL B w v l (sgnL neg ++ wordL f)) := by
  have d0 : w.cell? ⟨b, 0, none⟩ = some (.int .i8 f) := (cell_of_heap hb 0).trans rfl
  have d1 : w.cell? ⟨b, 1, none⟩ = some (.bool neg) := (cell_of_heap hb 1).trans rfl
  have HS := hid hs
  have HVB := hid hvb
  have HB := hid hb
  obtain ⟨i5, hi5, hz50, hz51, hz52⟩ := info_parts Tryz.info5
  clear hb hs hvb
  cases neg
  · rcases hf with rfl | rfl
    · go_enter Tryz.func32, Tryz.ntmps32
      go_wp2_with (at_builtin; refine wpList_append_bs _ rfl (.tmp 36) _ 40 9 rfl 5 i5 (.int .u8 0) Tryz.underlying40 hi5 hz50 hz51 hz52 rfl B _ _ l [73, 110, 102, 105, 110, 105, 116, 121] rfl HS.out rfl (Src.strB _ 9 [73, 110, 102, 105, 110, 105, 116, 121] Tryz.underlying9) (by simp; omega) hB ?_)
      intro v1 w1 hv1 hk1 ho1
      have HV1 := hid hv1
      clear hv1
      go_wp2
      go_ret
      exact ⟨v1, rfl, HV1.out, hk1, ho1.out⟩
    · go_enter Tryz.func32, Tryz.ntmps32
      go_wp2_with (at_builtin; refine wpList_append_bs _ rfl (.tmp 28) _ 40 9 rfl 5 i5 (.int .u8 0) Tryz.underlying40 hi5 hz50 hz51 hz52 rfl B _ _ l [78, 97, 78] rfl HS.out rfl (Src.strB _ 9 [78, 97, 78] Tryz.underlying9) (by simp; omega) hB ?_)
      intro v1 w1 hv1 hk1 ho1
      have HV1 := hid hv1
      clear hv1
      go_wp2
      go_ret
      exact ⟨v1, rfl, HV1.out, hk1, ho1.out⟩
  · rcases hf with rfl | rfl
    · go_enter Tryz.func32, Tryz.ntmps32
      go_wp2_with (at_builtin; refine wpList_append_bs _ rfl (.tmp 15) (.tmp 16) 40 40 rfl 5 i5 (.int .u8 0) Tryz.underlying40 hi5 hz50 hz51 hz52 rfl B _ _ l [45] rfl (HS.out.alloc _) rfl (Src.oneB _ 40 5 5 45 45 rfl Tryz.underlying40) (by simp; omega) (by simp; omega) ?_)
      intro v1 w1 hv1 hk1 ho1
      have hA1 := hold_one (Kept.refl v.ownBlock.toList w) (fun k hk => .inl hk) hk1 ho1.out
      have HA1 := hid hA1
      have hsz1 := hA1.1.size
      have HV1 := hid hv1
      have e0' : w1.cell? ⟨b, 0, none⟩ = some (.int .i8 ((1 : Nat) : Int)) := (cell_of_heap (hA1.1.heap HB.out (by simpa using HVB.out)) 0).trans rfl
      clear hA1 hv1 hk1 ho1 d0 d1
      go_wp2_with (at_builtin; refine wpList_append_bs _ rfl (.tmp 36) _ 40 9 rfl 5 i5 (.int .u8 0) Tryz.underlying40 hi5 hz50 hz51 hz52 rfl B _ _ _ [73, 110, 102, 105, 110, 105, 116, 121] rfl HV1.out rfl (Src.strB _ 9 [73, 110, 102, 105, 110, 105, 116, 121] Tryz.underlying9) (by simp; omega) (by omega) ?_)
      intro v2 w2 hv2 hk2 ho2
      have HV2 := hid hv2
      have HA2 := hid (AddL.next HA1.out.1 HA1.out.2 hk2 ho2.out)
      clear hv2 hk2 ho2
      go_wp2
      go_ret
      exact ⟨v2, rfl, by simpa [sgnL, wordL] using HV2.out, HA2.out.1, HA2.out.2⟩
    · go_enter Tryz.func32, Tryz.ntmps32
      go_wp2_with (at_builtin; refine wpList_append_bs _ rfl (.tmp 15) (.tmp 16) 40 40 rfl 5 i5 (.int .u8 0) Tryz.underlying40 hi5 hz50 hz51 hz52 rfl B _ _ l [45] rfl (HS.out.alloc _) rfl (Src.oneB _ 40 5 5 45 45 rfl Tryz.underlying40) (by simp; omega) (by simp; omega) ?_)
      intro v1 w1 hv1 hk1 ho1
      have hA1 := hold_one (Kept.refl v.ownBlock.toList w) (fun k hk => .inl hk) hk1 ho1.out
      have HA1 := hid hA1
      have hsz1 := hA1.1.size
      have HV1 := hid hv1
      have e0' : w1.cell? ⟨b, 0, none⟩ = some (.int .i8 ((3 : Nat) : Int)) := (cell_of_heap (hA1.1.heap HB.out (by simpa using HVB.out)) 0).trans rfl
      clear hA1 hv1 hk1 ho1 d0 d1
      go_wp2_with (at_builtin; refine wpList_append_bs _ rfl (.tmp 28) _ 40 9 rfl 5 i5 (.int .u8 0) Tryz.underlying40 hi5 hz50 hz51 hz52 rfl B _ _ _ [78, 97, 78] rfl HV1.out rfl (Src.strB _ 9 [78, 97, 78] Tryz.underlying9) (by simp; omega) (by omega) ?_)
      intro v2 w2 hv2 hk2 ho2
      have HV2 := hid hv2
      have HA2 := hid (AddL.next HA1.out.1 HA1.out.2 hk2 ho2.out)
      clear hv2 hk2 ho2
      go_wp2
      go_ret
      exact ⟨v2, rfl, by simpa [sgnL, wordL] using HV2.out, HA2.out.1, HA2.out.2⟩

/-- What Text('G') leaves, where Append leaves a list of which P holds. -/
theorem text_of (P : List UInt8 → Prop) (b : Nat) (w : World) (hP : ∀ L, P L → L ≠ [])
    (H : Calls Tryz.prog 32 #[.pointer (some ⟨b, 0, none⟩), .slice (some ⟨w.heap.size, 0, none⟩) 0 16, .int .u8 71] (w.alloc (.cells (Array.replicate 16 (.int .u8 0)) 84)) fun e w' => ∃ L, P L ∧ AddL w.heap.size (w.alloc (.cells (Array.replicate 16 (.int .u8 0)) 84)) (.slice (some ⟨w.heap.size, 0, none⟩) 0 16) [] L e w') :
    Calls Tryz.prog 24 #[.pointer (some ⟨b, 0, none⟩), .int .u8 71] w fun e w' => ∃ L, P L ∧ e = .returned (.string (bstr L)) ∧ Kept [] w w' := by
  have HH := hid H
  clear H
  go_enter Tryz.func24, Tryz.ntmps24
  go_wp2_with fail
  change Calls _ _ _ (w.alloc (.cells (Array.replicate 16 (.int .u8 0)) 84)) _
  refine (HH.out).mono ?_
  rintro e w1 ⟨L, hL, v1, rfl, h1, h2, h3⟩
  have hcv : (convert 40 9 v1).run Tryz.prog w1 = .ok (.string (bstr L)) w1 := run_convert_bs (by simpa using h1) (hP L hL)
  have HK := hid (((Kept.refl [] w).alloc (.cells (Array.replicate 16 (.int .u8 0)) 84)).trans h2 (ds := []) (by simp) (by simp [Value.ownBlock]))
  clear h1 h2 h3 HH
  go_wp2
  go_ret
  exact ⟨L, hL, rfl, HK.out⟩
end

section
open Go.RowKit

theorem two_allocs (w : World) (o1 o2 : Obj) : ((w.alloc o1).alloc o2).heap[w.heap.size + 1]? = some o2 := by
  have := heap_alloc_new (w.alloc o1) o2
  rwa [World.size_alloc] at this

/-- impl.made of what is no finite number. -/
theorem made_word (f : Nat) (neg : Bool) (sl : Value) (ex : Int) (w : World) (hf : f = 1 ∨ f = 3) (hsl : ∃ ao n c, sl = .slice ao n c) :
    Calls Tryz.prog 16 #[.agg #[.int .i64 f, .bool neg, sl, .int .i64 ex]] w fun e w' => ∃ b, e = .returned (.pointer (some ⟨b, 0, none⟩)) ∧ w.heap.size ≤ b ∧
      w'.heap[b]? = some (.cells #[.int .i8 f, .bool neg, .int .i32 0, .bool false, .slice none 0 0, .bool false] 69 (0, 0)) ∧ Kept [] w w' := by
  obtain ⟨ao, n, c, rfl⟩ := hsl
  rcases hf with rfl | rfl
  all_goals
    go_enter Tryz.func16, Tryz.ntmps16
    go_wp2
    go_ret
    exact ⟨_, rfl, by omega, two_allocs _ _ _, ((Kept.refl [] w).alloc _).alloc _⟩

/-- What is known of the package-level variables. -/
structure Glob2 (w : World) : Prop where
  leaf : w.cell? ⟨10, 0, none⟩ = some (.int .i64 8)
  sq : w.cell? ⟨17, 0, none⟩ = some (.int .i64 12)
  ksq : w.cell? ⟨18, 0, none⟩ = some (.int .i64 80)
  c0 : w.cell? ⟨1, 0, none⟩ = some (.int .u32 0)
  c1 : w.cell? ⟨1, 1, none⟩ = some (.int .i32 100000)
  c2 : w.cell? ⟨1, 2, none⟩ = some (.int .i32 (-100000))
  c3 : w.cell? ⟨1, 3, none⟩ = some (.int .u32 1967)
  c4 : w.cell? ⟨1, 4, none⟩ = some (.string ⟨#[]⟩)
  eof : ∃ a : Addr, w.cell? ⟨14, 0, none⟩ = some (.iface 166 (.pointer (some a)))
  tab : ∀ w', (∀ k, k < 20 → w'.heap[k]? = w.heap[k]?) → Lib.TabIs Tryz.prog w' "internal/strconv.uint64pow10" .u64 Lib.pow10Tab
  size : 20 ≤ w.heap.size

theorem Glob2.kept {w w' : World} {bs : List Nat} (h : Glob2 w) (k : Kept bs w w') (hb : ∀ b ∈ bs, 20 ≤ b) : Glob2 w' := by
  have hn : ∀ n, n < 20 → n ∉ bs := fun n hn hm => by have := hb n hm; omega
  have hs := h.size
  obtain ⟨a, ha⟩ := h.eof
  exact ⟨k.cellOf h.leaf (hn _ (by decide)), k.cellOf h.sq (hn _ (by decide)), k.cellOf h.ksq (hn _ (by decide)), k.cellOf h.c0 (hn _ (by decide)), k.cellOf h.c1 (hn _ (by decide)), k.cellOf h.c2 (hn _ (by decide)),
    k.cellOf h.c3 (hn _ (by decide)), k.cellOf h.c4 (hn _ (by decide)), ⟨a, k.cellOf ha (hn _ (by decide))⟩, fun w2 h2 => h.tab w2 fun i hi => (h2 i hi).trans (k.block i (by omega) (hn i hi)), Nat.le_trans hs k.size⟩

theorem Glob2.keep {w w' : World} (h : Glob2 w) (k : Kept [] w w') : Glob2 w' := h.kept k (by simp)

/-- The text of a decimal: form f, sign, coefficient V, exponent. -/
def TxtP (f : Nat) (neg : Bool) (V : Nat) (ex : Int) (L : List UInt8) : Prop :=
  (f = 0 ∧ ∃ D, 1 ≤ D ∧ D ≤ 60 ∧ V < 10 ^ D ∧ (D = 1 ∨ 10 ^ (D - 1) ≤ V) ∧ L = sgnL neg ++ (decShape V D ex).list 69) ∨ ((f = 1 ∨ f = 3) ∧ L = sgnL neg ++ wordL f)

theorem figs_unique {V D D' : Nat} (h1 : 1 ≤ D) (h2 : V < 10 ^ D) (h3 : D = 1 ∨ 10 ^ (D - 1) ≤ V) (k1 : 1 ≤ D') (k2 : V < 10 ^ D') (k3 : D' = 1 ∨ 10 ^ (D' - 1) ≤ V) : D = D' := by
  have aux : ∀ {D D' : Nat}, D < D' → 1 ≤ D → V < 10 ^ D → (D' = 1 ∨ 10 ^ (D' - 1) ≤ V) → False := by
    intro D D' hlt h1 h2 k3
    rcases k3 with h | h
    · omega
    · have : (10 : Nat) ^ D ≤ 10 ^ (D' - 1) := Nat.pow_le_pow_right (by omega) (by omega)
      omega
  rcases Nat.lt_trichotomy D D' with h | h | h
  · exact (aux h h1 h2 k3).elim
  · exact h
  · exact (aux h k1 k2 h3).elim

theorem TxtP.unique {f : Nat} {neg : Bool} {V : Nat} {ex : Int} {L L' : List UInt8} (h : TxtP f neg V ex L) (k : TxtP f neg V ex L') : L = L' := by
  rcases h with ⟨hf, D, h1, _, h2, h3, rfl⟩ | ⟨hf, rfl⟩
  · rcases k with ⟨_, D', k1, _, k2, k3, rfl⟩ | ⟨kf, _⟩
    · rw [figs_unique h1 h2 h3 k1 k2 k3]
    · omega
  · rcases k with ⟨kf, _⟩ | ⟨_, rfl⟩
    · omega
    · rfl

theorem shape_ne {s : Shape} {V : Nat} {e : Int} (h : ShapeOK s V e) (E : UInt8) : s.list E ≠ [] := by
  unfold Shape.list
  simp [h.ne]

theorem TxtP.ne {f : Nat} {neg : Bool} {V : Nat} {ex : Int} {L : List UInt8} (h : TxtP f neg V ex L) (hex : -100 ≤ ex ∧ ex ≤ 100) : L ≠ [] := by
  rcases h with ⟨hf, D, h1, h0, h2, h3, rfl⟩ | ⟨hf, rfl⟩
  · simp [shape_ne (decShape_ok V D ex h1 h0 h2 hex)]
  · unfold wordL
    split <;> simp

/-- Block b is such a Decimal. -/
def DecAt (w : World) (b : Nat) (f : Nat) (neg : Bool) (V : Nat) (ex : Int) : Prop :=
  (f = 0 ∧ ∃ B va n x, w.heap[b]? = some (.cells #[.int .i8 0, .bool neg, .int .i32 ex, .bool false, va, .bool false] 69 (0, 0)) ∧ n ≤ 3 ∧ NatV B w va n x ∧ (∀ j, j < n → x j < 18446744073709551616) ∧ (n = 0 ∨ x (n - 1) ≠ 0) ∧ val x n = V) ∨
  ((f = 1 ∨ f = 3) ∧ w.heap[b]? = some (.cells #[.int .i8 f, .bool neg, .int .i32 0, .bool false, .slice none 0 0, .bool false] 69 (0, 0)))

/-- Text('G') of such a Decimal. -/
theorem textG_any (DV : DivOK 3) (b f : Nat) (neg : Bool) (V : Nat) (ex : Int) (w : World) (hex : -100 ≤ ex ∧ ex ≤ 100) (hb : DecAt w b f neg V ex) (hG : Glob2 w) :
    Calls Tryz.prog 24 #[.pointer (some ⟨b, 0, none⟩), .int .u8 71] w fun e w' => ∃ L, TxtP f neg V ex L ∧ e = .returned (.string (bstr L)) ∧ Kept [] w w' := by
  refine text_of (TxtP f neg V ex) b w (fun L h => h.ne hex) ?_
  have hkA := (Kept.refl [] w).alloc (.cells (Array.replicate 16 (.int .u8 0)) 84)
  have hA := BS.nil _ _ _ (allocArr w (fun _ => .nilIface))
  have hzA : (w.alloc (.cells (Array.replicate 16 (.int .u8 0)) 84)).heap.size = w.heap.size + 1 := by simp
  have hG2 := hG.keep hkA
  have hs := hG.size
  generalize (w.alloc (.cells (Array.replicate 16 (.int .u8 0)) 84)) = W2 at *
  rcases hb with ⟨rfl, B, va, n, x, hb, h1, h2, h3, h4, h5⟩ | ⟨hf, hb⟩
  · have hlt := lt_of_heap hb
    have hvb : (Value.slice (some ⟨w.heap.size, 0, none⟩) 0 16).ownBlock ≠ some b := by simp [Value.ownBlock]; omega
    have hvn : (Value.slice (some ⟨w.heap.size, 0, none⟩) 0 16).ownBlock = none ∨ (Value.slice (some ⟨w.heap.size, 0, none⟩) 0 16).ownBlock ≠ va.ownBlock := by
      right
      intro h
      obtain ⟨ao, c, rfl⟩ := h2.shape
      have hh : (Value.slice ao n c).ownBlock = some w.heap.size := h.symm
      rcases h2 with ⟨h6, _⟩ | ⟨g, c', h6, _, _, _, h7⟩
      · rw [h6] at hh; simp [Value.ownBlock] at hh
      · rw [h6] at hh; simp [Value.ownBlock] at hh; have := h7.lt; omega
    have h20 : ∀ k, (Value.slice (some ⟨w.heap.size, 0, none⟩) 0 16).ownBlock = some k → 20 ≤ k := fun k hk => by simp [Value.ownBlock] at hk; omega
    have key : Calls Tryz.prog 32 #[.pointer (some ⟨b, 0, none⟩), .slice (some ⟨w.heap.size, 0, none⟩) 0 16, .int .u8 71] W2 (DecL neg (val x n) ex w.heap.size W2 (.slice (some ⟨w.heap.size, 0, none⟩) 0 16) []) := by
      cases neg
      · exact decAppendG_pos 3 DV b ex B n va x w.heap.size _ [] W2 h1 h1 hex (hkA.heap hb (by simp)) (h2.kept hkA (by simp)) h3 h4 hA hvb hvn (by omega) (by simp) hG2.tab h20 (by omega) hG2.leaf
      · exact decAppendG_neg 3 DV b ex B n va x w.heap.size _ [] W2 h1 h1 hex (hkA.heap hb (by simp)) (h2.kept hkA (by simp)) h3 h4 hA hvb hvn (by omega) (by simp) hG2.tab h20 (by omega) hG2.leaf
    refine key.mono ?_
    rintro e w' ⟨D, k1, k2, k3, k4, k5⟩
    rw [h5] at k3 k4 k5
    exact ⟨_, .inl ⟨rfl, D, k1, k2, k3, k4, rfl⟩, k5⟩
  · have hlt := lt_of_heap hb
    refine (decAppendG_word f neg b _ w.heap.size _ [] W2 hf (hkA.heap hb (by simp)) hA (by simp [Value.ownBlock]; omega) (by omega) (by simp)).mono ?_
    rintro e w' h
    exact ⟨_, .inr ⟨hf, rfl⟩, h⟩
end

end Go.Proofs.YtofmickjbpkgbaaGreatDoor
