import Derived.Test.YtofmickjbpkgbaaGreatDoorMq
import Derived.Test.YtofmickjbpkgbaaGreatDoorMp
set_option maxRecDepth 100000
namespace Go.Proofs.YtofmickjbpkgbaaGreatDoor
section
open Go.RowKit

/-- Where a slice's words lie. -/
def Ws (w : World) (ao : Option Addr) (n : Nat) (x : Nat → Nat) : Prop := n = 0 ∨ ∃ g o, ao = some ⟨g, o, none⟩ ∧ g < w.heap.size ∧ ∀ j, j < n → w.cell? ⟨g, o + j, none⟩ = some (.int .u64 (x j : Nat))

theorem Ws.keep {w w' : World} {ao : Option Addr} {n : Nat} {x : Nat → Nat} (h : Ws w ao n x) (k : Kept [] w w') : Ws w' ao n x := by
  rcases h with h | ⟨g, o, g1, g2, g3⟩
  · exact .inl h
  · exact .inr ⟨g, o, g1, Nat.lt_of_lt_of_le g2 k.size, fun j hj => k.cellOf (g3 j hj) (by simp)⟩

/-- What HasWords leaves. -/
def HWPost (n m : Nat) (w : World) (e : Ending) (w' : World) : Prop := (∃ r : Bool, e = .returned (.bool r) ∧ (r = true → n = m)) ∧ Kept [] w w'

set_option maxHeartbeats 4000000 in
/-- spec.HasWords: what true says of the length. -/
theorem hasWords_weak (n c K g c' : Nat) (ao : Option Addr) (x : Nat → Nat) (w : World) (hn : n ≤ 3) (hc : n ≤ c) (hcc : c ≤ 9223372036854775807) (hw : Ws w ao n x) (hK : K ≤ 12) (hKc : K ≤ c') (hcc' : c' ≤ 9223372036854775807)
    (hR : Row w g 3 c' (fun j => .int .i64 (limb x j : Nat)) K) :
    Calls Tryz.prog 29 #[.slice ao n c, .slice (some ⟨g, 0, none⟩) K c'] w (HWPost n ((K + 3) / 4) w) := by
  have H5 := hid (words_len K g c' 3 x w hK hKc hcc' hR)
  have HW := hid hw
  obtain ⟨m, hm⟩ : ∃ m, m = (K + 3) / 4 := ⟨_, rfl⟩
  rw [← hm] at H5 ⊢
  clear hR hw hm hKc hcc' hK
  go_enter Tryz.func29, Tryz.ntmps29
  go_wp2_with fail
  refine (H5.out).mono ?_
  rintro e w1 ⟨v, rfl, hww, hk1⟩
  obtain ⟨g1, c1, y, rfl, hg1, hc1, hc1', hR1⟩ := hww.row
  have HR1 := hid hR1
  have HK1 := hid hk1
  clear hww hR1 hk1 H5
  by_cases hnm : n = m
  · subst hnm
    go_wp2_with fail
    go_loopw [16] (fun i wr => ∃ k : Nat, i = .int .i64 k ∧ k ≤ n ∧ Hid (Kept [] w1 wr)) (fun i _ => n - (intOf i).toNat)
    case atStart => exact ⟨0, rfl, Nat.zero_le _, Kept.refl _ _⟩
    case round =>
      obtain ⟨k, rfl, hk, HKR⟩ := hrel
      by_cases hlt : k < n
      · obtain ⟨g0, o0, rfl, _, hcell⟩ := (HW.out.resolve_left (by omega))
        have q1 := (HK1.out.then HKR.out).cellOf (hcell k hlt) (by simp)
        have q2 := HKR.out.cellOf (HR1.out.cell hlt) (by simp)
        generalize y k = yk at q2
        clear hcell
        go_wp2
        go_region_with (fail)
        all_goals
          go_wp2
          · go_ret
            exact ⟨⟨false, rfl, fun h => by cases h⟩, (HK1.out.then HKR.out).drew⟩
          · go_roundw
            case rel => exact ⟨k + 1, by go_num, by omega, hid HKR.out.drew⟩
            case measure => simp [intOf]; omega
      · obtain rfl : k = n := by omega
        go_wp2
        go_ret
        exact ⟨⟨true, rfl, fun _ => rfl⟩, HK1.out.then HKR.out⟩
  · have hb : ((n : Int) != m) = true := by simp; omega
    go_wp2
    go_ret
    exact ⟨⟨false, rfl, fun h => by cases h⟩, HK1.out⟩

theorem top_of_limbs {x : Nat → Nat} {n K : Nat} (h : NormAt (limb x) (4 * n) K) (hn : n = (K + 3) / 4) : n = 0 ∨ x (n - 1) ≠ 0 := by
  rcases Nat.eq_zero_or_pos n with h0 | h0
  · exact .inl h0
  · right
    obtain ⟨h1, h2, h3⟩ := h
    have hK : K ≠ 0 := by omega
    have h4 := h2.resolve_left hK
    intro hx
    apply h4
    unfold limb
    rw [show (K - 1) / 4 = n - 1 by omega, hx]
    simp

theorem cell_three {w : World} {a j : Nat} {v : Value} (h : w.cell? ⟨a, j, none⟩ = some v) (b : Nat) (hb : b ≠ a) (v0 v1 v2 : Value) :
    (((w.setCell ⟨b, 0, none⟩ v0).setCell ⟨b, 1, none⟩ v1).setCell ⟨b, 2, none⟩ v2).cell? ⟨a, j, none⟩ = some v :=
  ((((Kept.refl [b] w).setCell ⟨b, 0, none⟩ v0 (.inl (by simp))).setCell ⟨b, 1, none⟩ v1 (.inl (by simp))).setCell ⟨b, 2, none⟩ v2 (.inl (by simp))).cellOf h (by simp; omega)

/-- What OfDec leaves. -/
def OfPost (P : Prop) (w : World) (e : Ending) (w' : World) : Prop :=
  (∃ (b : Bool) (ao : Option Addr) (n c : Nat) (ex : Int) (r : Bool), e = .returned (.tuple #[.agg #[.bool b, .slice ao n c, .int .i64 ex], .bool r]) ∧ (r = true → P)) ∧ Kept [] w w'

set_option maxHeartbeats 4000000 in
/-- spec.OfDec: what true says. -/
theorem ofDec_any (fm ex : Int) (ng : Bool) (n c : Nat) (ao : Option Addr) (x : Nat → Nat) (w : World) (hn : n ≤ 3) (hc : n ≤ c) (hcc : c ≤ 9223372036854775807) (hw : Ws w ao n x) (hx : ∀ j, j < n → x j < 18446744073709551616) :
    Calls Tryz.prog 19 #[.agg #[.int .i64 fm, .bool ng, .slice ao n c, .int .i64 ex]] w (OfPost (fm = 0 ∧ (n = 0 ∨ x (n - 1) ≠ 0)) w) := by
  have hk2 := ((Kept.refl [] w).alloc (.cells #[.int .i64 fm, .bool ng, .slice ao n c, .int .i64 ex] 30)).alloc (.cells #[.bool false, .slice none 0 0, .int .i64 0] 36)
  have hA := heap_alloc_old' (heap_alloc_new w (.cells #[.int .i64 fm, .bool ng, .slice ao n c, .int .i64 ex] 30)) (.cells #[.bool false, .slice none 0 0, .int .i64 0] 36)
  have hB := two_allocs w (.cells #[.int .i64 fm, .bool ng, .slice ao n c, .int .i64 ex] 30) (.cells #[.bool false, .slice none 0 0, .int .i64 0] 36)
  have HK2 := hid hk2
  have HA := hid hA
  have HB := hid hB
  have HW := hid hw
  have HX := hid hx
  clear hk2 hA hB hw hx
  go_enter Tryz.func19, Tryz.ntmps19
  go_wp2_with fail
  generalize (w.alloc (.cells #[.int .i64 fm, .bool ng, .slice ao n c, .int .i64 ex] 30)).alloc (.cells #[.bool false, .slice none 0 0, .int .i64 0] 36) = W2 at *
  refine (of_any n c ao x W2 (by omega) hc hcc HX.out (HW.out.keep HK2.out)).mono ?_
  rintro e w3 ⟨g, K, c', rfl, hN, hg, hKc, hcc', hR, hk3⟩
  have HN := hid hN
  have HR := hid (hR.congr hN.1 (fun _ _ => rfl))
  have hK12 : K ≤ 12 := by have := hN.1; omega
  have hA3 := hk3.heap HA.out (by simp)
  have hB3 := hk3.heap HB.out (by simp)
  have HK3 := hid (HK2.out.then hk3)
  have HA3 := hid hA3
  have HB3 := hid hB3
  have HH : Hid (∀ w', Kept [] w3 w' → _) := hid fun w' h => hasWords_weak n c K g c' ao x w' hn hc hcc ((HW.out.keep HK3.out).keep h) hK12 hKc hcc' (HR.out.kept h (by simp))
  clear hN hR hk3 hA3 hB3 HA HB
  go_upto_region 2 with fail
  have a0 := cell_of_heap HA3.out 0
  have a1 := cell_of_heap HA3.out 1
  have a2 := cell_of_heap HA3.out 2
  have a3 := cell_of_heap HA3.out 3
  have b0 := cell_of_heap HB3.out 0
  have b1 := cell_of_heap HB3.out 1
  have b2 := cell_of_heap HB3.out 2
  have fb := frozen_of_heap HB3.out
  by_cases hf : fm = 0
  · subst hf
    go_region_held3 (fun w' => w'.cell? ⟨w.heap.size, 0, none⟩ = some (.int .i64 0) ∧ w'.cell? ⟨w.heap.size, 1, none⟩ = some (.bool ng) ∧ w'.cell? ⟨w.heap.size, 2, none⟩ = some (.slice ao n c) ∧ w'.cell? ⟨w.heap.size, 3, none⟩ = some (.int .i64 ex)) (first | exact ⟨a0, a1, a2, a3⟩ | exact ⟨a0', a1', a2', a3'⟩ | exact ⟨cell_three a0' _ (by omega) _ _ _, cell_three a1' _ (by omega) _ _ _, cell_three a2' _ (by omega) _ _ _, cell_three a3' _ (by omega) _ _ _⟩) (first | (go_simp; go_at_call 29; refine (HH.out _ (by first | exact Kept.refl _ _ | exact (Kept.refl [] _).drew | exact (Kept.refl [] _).drewN _)).mono ?_; rintro e w4 ⟨⟨r, rfl, hr⟩, hk4⟩; have hk4' : Kept [] w3 w4 := (by first | exact hk4 | exact hk4.ofDrew | exact ((Kept.refl [] w3).drewN _).then hk4); have hA4 := hk4'.heap HA3.out (by simp); have hB4 := hk4'.heap HB3.out (by simp); have a0' := cell_of_heap hA4 0; have a1' := cell_of_heap hA4 1; have a2' := cell_of_heap hA4 2; have a3' := cell_of_heap hA4 3; have b0' := cell_of_heap hB4 0; have b1' := cell_of_heap hB4 1; have b2' := cell_of_heap hB4 2; have fb' := frozen_of_heap hB4; have HR4 := hid hr; have HK4 := hid hk4'; have HB4 := hid hB4; clear hr hk4 hk4' hA4 hB4))
    all_goals
      have hhf := heap_setCell_self (heap_setCell_self (heap_setCell_self HB4.out 0 (.bool ng)) 1 (.slice (some ⟨g, 0, none⟩) K c')) 2 (.int .i64 ex)
      have hkf := (((HK3.out.then HK4.out).setCell ⟨w.heap.size + 1, 0, none⟩ (.bool ng) (.inr (by simp))).setCell ⟨w.heap.size + 1, 1, none⟩ (.slice (some ⟨g, 0, none⟩) K c') (.inr (by simp))).setCell ⟨w.heap.size + 1, 2, none⟩ (.int .i64 ex) (.inr (by simp))
      have HHF := hid hhf
      have HKF := hid hkf
      clear hhf hkf
      go_wp2
      generalize (World.setCell _ ⟨w.heap.size + 1, 2, none⟩ (.int .i64 ex)) = W5 at *
      have d0 : W5.cell? ⟨w.heap.size + 1, 0, none⟩ = some (.bool ng) := (cell_of_heap HHF.out 0).trans rfl
      have d1 : W5.cell? ⟨w.heap.size + 1, 1, none⟩ = some (.slice (some ⟨g, 0, none⟩) K c') := (cell_of_heap HHF.out 1).trans rfl
      have d2 : W5.cell? ⟨w.heap.size + 1, 2, none⟩ = some (.int .i64 ex) := (cell_of_heap HHF.out 2).trans rfl
      refine bodyPost_ret (v := .tuple #[.agg #[.bool ng, .slice (some ⟨g, 0, none⟩) K c', .int .i64 ex], .bool r]) (by simp [results, Tryz.results19, go_sem, d0, d1, d2]) rfl ?_
      exact ⟨⟨ng, _, K, c', ex, r, rfl, fun h => ⟨trivial, top_of_limbs HN.out (HR4.out h)⟩⟩, HKF.out⟩
  · have hf1 : (fm == 0) = false := by simp [hf]
    go_big_region
    all_goals
      have hhf : (((w3.setCell ⟨w.heap.size + 1, 0, none⟩ (.bool ng)).setCell ⟨w.heap.size + 1, 1, none⟩ (.slice (some ⟨g, 0, none⟩) K c')).setCell ⟨w.heap.size + 1, 2, none⟩ (.int .i64 ex)).drew.heap[w.heap.size + 1]? = _ := heap_setCell_self (heap_setCell_self (heap_setCell_self HB3.out 0 (.bool ng)) 1 (.slice (some ⟨g, 0, none⟩) K c')) 2 (.int .i64 ex)
      have hkf := (((HK3.out.setCell ⟨w.heap.size + 1, 0, none⟩ (.bool ng) (.inr (by simp))).setCell ⟨w.heap.size + 1, 1, none⟩ (.slice (some ⟨g, 0, none⟩) K c') (.inr (by simp))).setCell ⟨w.heap.size + 1, 2, none⟩ (.int .i64 ex) (.inr (by simp))).drew
      have HHF := hid hhf
      have HKF := hid hkf
      clear hhf hkf
      go_wp2
      generalize (World.setCell _ ⟨w.heap.size + 1, 2, none⟩ (.int .i64 ex)).drew = W5 at *
      have d0 : W5.cell? ⟨w.heap.size + 1, 0, none⟩ = some (.bool ng) := (cell_of_heap HHF.out 0).trans rfl
      have d1 : W5.cell? ⟨w.heap.size + 1, 1, none⟩ = some (.slice (some ⟨g, 0, none⟩) K c') := (cell_of_heap HHF.out 1).trans rfl
      have d2 : W5.cell? ⟨w.heap.size + 1, 2, none⟩ = some (.int .i64 ex) := (cell_of_heap HHF.out 2).trans rfl
      refine bodyPost_ret (v := .tuple #[.agg #[.bool ng, .slice (some ⟨g, 0, none⟩) K c', .int .i64 ex], .bool false]) (by simp [results, Tryz.results19, go_sem, d0, d1, d2]) rfl ?_
      exact ⟨⟨ng, _, K, c', ex, false, rfl, fun h => by cases h⟩, HKF.out⟩

/-- laws.zzFits1. -/
theorem zzFits_any (fm ex : Int) (ng : Bool) (n c : Nat) (ao : Option Addr) (w : World) :
    Calls Tryz.prog 8 #[.agg #[.int .i64 fm, .bool ng, .slice ao n c, .int .i64 ex]] w fun e w' => (∃ r : Bool, e = .returned (.bool r)) ∧ Kept [] w w' := by
  go_enter Tryz.func8, Tryz.ntmps8
  go_wp2
  all_goals
    go_ret
    exact ⟨⟨_, rfl⟩, (Kept.refl [] w).alloc _⟩

/-- What finite asks. -/
def FinP (n : Nat) (x : Nat → Nat) (fm ex : Int) : Prop := n ≤ 3 ∧ -100 ≤ ex ∧ ex ≤ 100 ∧ fm = 0 ∧ (n = 0 ∨ x (n - 1) ≠ 0)

set_option maxHeartbeats 4000000 in
/-- laws.finite: what true says. -/
theorem finite_any (fm ex : Int) (ng : Bool) (n c : Nat) (ao : Option Addr) (x : Nat → Nat) (w : World) (hc : n ≤ c) (hcc : c ≤ 9223372036854775807) (hw : Ws w ao n x) (hx : ∀ j, j < n → x j < 18446744073709551616) :
    Calls Tryz.prog 9 #[.agg #[.int .i64 fm, .bool ng, .slice ao n c, .int .i64 ex]] w (OfPost (FinP n x fm ex) w) := by
  have hk2 := ((Kept.refl [] w).alloc (.cells #[.int .i64 fm, .bool ng, .slice ao n c, .int .i64 ex] 30)).alloc (.cells #[.bool false, .slice none 0 0, .int .i64 0] 36)
  have hA := heap_alloc_old' (heap_alloc_new w (.cells #[.int .i64 fm, .bool ng, .slice ao n c, .int .i64 ex] 30)) (.cells #[.bool false, .slice none 0 0, .int .i64 0] 36)
  have hB := two_allocs w (.cells #[.int .i64 fm, .bool ng, .slice ao n c, .int .i64 ex] 30) (.cells #[.bool false, .slice none 0 0, .int .i64 0] 36)
  have HK2 := hid hk2
  have HA := hid hA
  have HB := hid hB
  have HW := hid hw
  have HX := hid hx
  clear hk2 hA hB hw hx
  go_enter Tryz.func9, Tryz.ntmps9
  go_upto_region 1 with fail
  generalize (w.alloc (.cells #[.int .i64 fm, .bool ng, .slice ao n c, .int .i64 ex] 30)).alloc (.cells #[.bool false, .slice none 0 0, .int .i64 0] 36) = W2 at *
  have a0 := cell_of_heap HA.out 0
  have a1 := cell_of_heap HA.out 1
  have a2 := cell_of_heap HA.out 2
  have a3 := cell_of_heap HA.out 3
  have b0 := cell_of_heap HB.out 0
  have b1 := cell_of_heap HB.out 1
  have b2 := cell_of_heap HB.out 2
  have fb := frozen_of_heap HB.out
  by_cases hn : n ≤ 3 ∧ -100 ≤ ex ∧ ex ≤ 100
  · have h1 : decide (3 < (n : Int)) = false := by simp; omega
    have h2 : decide (ex < -100) = false := by simp; omega
    have h3 : decide (100 < ex) = false := by simp; omega
    have H19 := hid (ofDec_any fm ex ng n c ao x W2 hn.1 hc hcc (HW.out.keep HK2.out) HX.out)
    go_wp2_with fail
    refine (H19.out).mono ?_
    rintro e w3 ⟨⟨b, ao', n', c', ex', r, rfl, hr⟩, hk3⟩
    have hB3 := hk3.heap HB.out (by simp)
    have e0 := cell_of_heap hB3 0
    have e1 := cell_of_heap hB3 1
    have e2 := cell_of_heap hB3 2
    have fe := frozen_of_heap hB3
    have HR := hid hr
    have hhf := heap_setCell_self (heap_setCell_self (heap_setCell_self hB3 0 (.bool b)) 1 (.slice ao' n' c')) 2 (.int .i64 ex')
    have hkf := (((HK2.out.then hk3).setCell ⟨w.heap.size + 1, 0, none⟩ (.bool b) (.inr (by simp))).setCell ⟨w.heap.size + 1, 1, none⟩ (.slice ao' n' c') (.inr (by simp))).setCell ⟨w.heap.size + 1, 2, none⟩ (.int .i64 ex') (.inr (by simp))
    have HHF := hid hhf
    have HKF := hid hkf
    clear hhf hkf hr hk3 hB3 H19 a0 a1 a2 a3 b0 b1 b2 fb
    go_wp2
    generalize (World.setCell _ ⟨w.heap.size + 1, 2, none⟩ (.int .i64 ex')) = W5 at *
    have d0 : W5.cell? ⟨w.heap.size + 1, 0, none⟩ = some (.bool b) := (cell_of_heap HHF.out 0).trans rfl
    have d1 : W5.cell? ⟨w.heap.size + 1, 1, none⟩ = some (.slice ao' n' c') := (cell_of_heap HHF.out 1).trans rfl
    have d2 : W5.cell? ⟨w.heap.size + 1, 2, none⟩ = some (.int .i64 ex') := (cell_of_heap HHF.out 2).trans rfl
    refine bodyPost_ret (v := .tuple #[.agg #[.bool b, .slice ao' n' c', .int .i64 ex'], .bool r]) (by simp [results, Tryz.results9, go_sem, d0, d1, d2]) rfl ?_
    exact ⟨⟨b, _, n', c', ex', r, rfl, fun h => ⟨hn.1, hn.2.1, hn.2.2, (HR.out h).1, (HR.out h).2⟩⟩, HKF.out⟩
  · have hhf := heap_setCell_self (heap_setCell_self (heap_setCell_self HB.out 0 (.bool false)) 1 (.slice none 0 0)) 2 (.int .i64 0)
    have hkf := ((HK2.out.setCell ⟨w.heap.size + 1, 0, none⟩ (.bool false) (.inr (by simp))).setCell ⟨w.heap.size + 1, 1, none⟩ (.slice none 0 0) (.inr (by simp))).setCell ⟨w.heap.size + 1, 2, none⟩ (.int .i64 0) (.inr (by simp))
    have HHF := hid hhf
    have HKF := hid hkf
    clear hhf hkf
    rcases (by omega : 3 < n ∨ (n ≤ 3 ∧ ex < -100) ∨ (n ≤ 3 ∧ -100 ≤ ex ∧ 100 < ex)) with h | h | h
    · have h1 : decide (3 < (n : Int)) = true := by simp; omega
      clear hn h
      go_wp2
      generalize (World.setCell _ ⟨w.heap.size + 1, 2, none⟩ (.int .i64 0)) = W5 at *
      have d0 : W5.cell? ⟨w.heap.size + 1, 0, none⟩ = some (.bool false) := (cell_of_heap HHF.out 0).trans rfl
      have d1 : W5.cell? ⟨w.heap.size + 1, 1, none⟩ = some (.slice none 0 0) := (cell_of_heap HHF.out 1).trans rfl
      have d2 : W5.cell? ⟨w.heap.size + 1, 2, none⟩ = some (.int .i64 0) := (cell_of_heap HHF.out 2).trans rfl
      refine bodyPost_ret (v := .tuple #[.agg #[.bool false, .slice none 0 0, .int .i64 0], .bool false]) (by simp [results, Tryz.results9, go_sem, d0, d1, d2]) rfl ?_
      exact ⟨⟨false, _, 0, 0, 0, false, rfl, fun h => by cases h⟩, HKF.out⟩
    · have h1 : decide (3 < (n : Int)) = false := by simp; omega
      have h2 : decide (ex < -100) = true := by simp; omega
      clear hn h
      go_wp2
      generalize (World.setCell _ ⟨w.heap.size + 1, 2, none⟩ (.int .i64 0)) = W5 at *
      have d0 : W5.cell? ⟨w.heap.size + 1, 0, none⟩ = some (.bool false) := (cell_of_heap HHF.out 0).trans rfl
      have d1 : W5.cell? ⟨w.heap.size + 1, 1, none⟩ = some (.slice none 0 0) := (cell_of_heap HHF.out 1).trans rfl
      have d2 : W5.cell? ⟨w.heap.size + 1, 2, none⟩ = some (.int .i64 0) := (cell_of_heap HHF.out 2).trans rfl
      refine bodyPost_ret (v := .tuple #[.agg #[.bool false, .slice none 0 0, .int .i64 0], .bool false]) (by simp [results, Tryz.results9, go_sem, d0, d1, d2]) rfl ?_
      exact ⟨⟨false, _, 0, 0, 0, false, rfl, fun h => by cases h⟩, HKF.out⟩
    · have h1 : decide (3 < (n : Int)) = false := by simp; omega
      have h2 : decide (ex < -100) = false := by simp; omega
      have h3 : decide (100 < ex) = true := by simp; omega
      clear hn h
      go_wp2
      generalize (World.setCell _ ⟨w.heap.size + 1, 2, none⟩ (.int .i64 0)) = W5 at *
      have d0 : W5.cell? ⟨w.heap.size + 1, 0, none⟩ = some (.bool false) := (cell_of_heap HHF.out 0).trans rfl
      have d1 : W5.cell? ⟨w.heap.size + 1, 1, none⟩ = some (.slice none 0 0) := (cell_of_heap HHF.out 1).trans rfl
      have d2 : W5.cell? ⟨w.heap.size + 1, 2, none⟩ = some (.int .i64 0) := (cell_of_heap HHF.out 2).trans rfl
      refine bodyPost_ret (v := .tuple #[.agg #[.bool false, .slice none 0 0, .int .i64 0], .bool false]) (by simp [results, Tryz.results9, go_sem, d0, d1, d2]) rfl ?_
      exact ⟨⟨false, _, 0, 0, 0, false, rfl, fun h => by cases h⟩, HKF.out⟩

/-- laws.inf. -/
theorem inf_any (neg : Bool) (w : World) : Calls Tryz.prog 20 #[.bool neg] w fun e w' => e = .returned (.agg #[.int .i64 1, .bool neg, .slice none 0 0, .int .i64 0]) ∧ w' = w.alloc (.cells #[.int .i64 1, .bool neg, .slice none 0 0, .int .i64 0] 30) := by
  go_enter Tryz.func20, Tryz.ntmps20
  go_wp2
  go_returns
  exact ⟨rfl, rfl⟩

/-- laws.ofKind. -/
theorem ofKind_any (k : Nat) (neg : Bool) (fm ex : Int) (ng : Bool) (n c : Nat) (ao : Option Addr) (w : World) (hk : k = 0 ∨ k = 1 ∨ k = 3) :
    Calls Tryz.prog 10 #[.int .u8 k, .bool neg, .agg #[.int .i64 fm, .bool ng, .slice ao n c, .int .i64 ex]] w fun e w' =>
      e = .returned (if k = 0 then .agg #[.int .i64 fm, .bool ng, .slice ao n c, .int .i64 ex] else .agg #[.int .i64 k, .bool neg, .slice none 0 0, .int .i64 0]) ∧ Kept [] w w' := by
  rcases hk with rfl | rfl | rfl
  · go_enter Tryz.func10, Tryz.ntmps10
    go_wp2
    go_returns
    exact ⟨rfl, ((Kept.refl [] w).alloc _).alloc _⟩
  · go_enter Tryz.func10, Tryz.ntmps10
    go_wp2_with fail
    refine (inf_any neg _).mono ?_
    rintro e w1 ⟨rfl, rfl⟩
    have hA := two_allocs w (.cells #[.int .i64 fm, .bool ng, .slice ao n c, .int .i64 ex] 30) (.cells #[.int .i64 0, .bool false, .slice none 0 0, .int .i64 0] 30)
    have hk2 := ((Kept.refl [] w).alloc (.cells #[.int .i64 fm, .bool ng, .slice ao n c, .int .i64 ex] 30)).alloc (.cells #[.int .i64 0, .bool false, .slice none 0 0, .int .i64 0] 30)
    generalize (w.alloc (.cells #[.int .i64 fm, .bool ng, .slice ao n c, .int .i64 ex] 30)).alloc (.cells #[.int .i64 0, .bool false, .slice none 0 0, .int .i64 0] 30) = W2 at *
    have hA3 := heap_alloc_old' hA (.cells #[.int .i64 1, .bool neg, .slice none 0 0, .int .i64 0] 30)
    have hk3 := hk2.alloc (.cells #[.int .i64 1, .bool neg, .slice none 0 0, .int .i64 0] 30)
    generalize W2.alloc (.cells #[.int .i64 1, .bool neg, .slice none 0 0, .int .i64 0] 30) = W3 at *
    have e0 := cell_of_heap hA3 0
    have e1 := cell_of_heap hA3 1
    have e2 := cell_of_heap hA3 2
    have e3 := cell_of_heap hA3 3
    have fe := frozen_of_heap hA3
    have hhf := heap_setCell_self (heap_setCell_self (heap_setCell_self (heap_setCell_self hA3 0 (.int .i64 1)) 1 (.bool neg)) 2 (.slice none 0 0)) 3 (.int .i64 0)
    have hkf := (((hk3.setCell ⟨w.heap.size + 1, 0, none⟩ (.int .i64 1) (.inr (by simp))).setCell ⟨w.heap.size + 1, 1, none⟩ (.bool neg) (.inr (by simp))).setCell ⟨w.heap.size + 1, 2, none⟩ (.slice none 0 0) (.inr (by simp))).setCell ⟨w.heap.size + 1, 3, none⟩ (.int .i64 0) (.inr (by simp))
    have HHF := hid hhf
    have HKF := hid hkf
    clear hhf hkf hA hk2 hA3 hk3
    go_wp2
    generalize (World.setCell _ ⟨w.heap.size + 1, 3, none⟩ (.int .i64 0)) = W5 at *
    have d0 : W5.cell? ⟨w.heap.size + 1, 0, none⟩ = some (.int .i64 1) := (cell_of_heap HHF.out 0).trans rfl
    have d1 : W5.cell? ⟨w.heap.size + 1, 1, none⟩ = some (.bool neg) := (cell_of_heap HHF.out 1).trans rfl
    have d2 : W5.cell? ⟨w.heap.size + 1, 2, none⟩ = some (.slice none 0 0) := (cell_of_heap HHF.out 2).trans rfl
    have d3 : W5.cell? ⟨w.heap.size + 1, 3, none⟩ = some (.int .i64 0) := (cell_of_heap HHF.out 3).trans rfl
    refine bodyPost_ret (v := .agg #[.int .i64 1, .bool neg, .slice none 0 0, .int .i64 0]) (by simp [results, Tryz.results10, go_sem, d0, d1, d2, d3]) rfl ?_
    exact ⟨rfl, HKF.out⟩
  · go_enter Tryz.func10, Tryz.ntmps10
    go_wp2
    go_returns
    exact ⟨rfl, ((Kept.refl [] w).alloc _).alloc _⟩
end

section
open Go.RowKit

set_option maxHeartbeats 4000000 in
/-- laws.equal of two Decs of the same parts. -/
theorem equal_any (fm ex : Int) (neg : Bool) (n zc uc : Nat) (zo uo : Option Addr) (x : Nat → Nat) (w : World) (hn : n ≤ 3) (hzc : n ≤ zc) (hzcc : zc ≤ 9223372036854775807) (huc : n ≤ uc) (hucc : uc ≤ 9223372036854775807) (hz : Ws w zo n x) (hu : Ws w uo n x) :
    Calls Tryz.prog 14 #[.agg #[.int .i64 fm, .bool neg, .slice zo n zc, .int .i64 ex], .agg #[.int .i64 fm, .bool neg, .slice uo n uc, .int .i64 ex]] w fun e w' => e = .returned (.bool true) ∧ Kept [] w w' := by
  have hk2 := ((Kept.refl [] w).alloc (.cells #[.int .i64 fm, .bool neg, .slice zo n zc, .int .i64 ex] 30)).alloc (.cells #[.int .i64 fm, .bool neg, .slice uo n uc, .int .i64 ex] 30)
  have hA := heap_alloc_old' (heap_alloc_new w (.cells #[.int .i64 fm, .bool neg, .slice zo n zc, .int .i64 ex] 30)) (.cells #[.int .i64 fm, .bool neg, .slice uo n uc, .int .i64 ex] 30)
  have hB := two_allocs w (.cells #[.int .i64 fm, .bool neg, .slice zo n zc, .int .i64 ex] 30) (.cells #[.int .i64 fm, .bool neg, .slice uo n uc, .int .i64 ex] 30)
  have HK2 := hid hk2
  have HA := hid hA
  have HB := hid hB
  have HZ := hid hz
  have HU := hid hu
  clear hk2 hA hB hz hu
  go_enter Tryz.func14, Tryz.ntmps14
  go_upto_region 1 with fail
  generalize (w.alloc (.cells #[.int .i64 fm, .bool neg, .slice zo n zc, .int .i64 ex] 30)).alloc (.cells #[.int .i64 fm, .bool neg, .slice uo n uc, .int .i64 ex] 30) = W2 at *
  have a0 := cell_of_heap HA.out 0
  have a1 := cell_of_heap HA.out 1
  have a2 := cell_of_heap HA.out 2
  have a3 := cell_of_heap HA.out 3
  have b0 := cell_of_heap HB.out 0
  have b1 := cell_of_heap HB.out 1
  have b2 := cell_of_heap HB.out 2
  have b3 := cell_of_heap HB.out 3
  go_wp2_with fail
  go_loopw [37] (fun i wr => ∃ k : Nat, i = .int .i64 k ∧ k ≤ n ∧ Hid (Kept [] W2 wr)) (fun i _ => n - (intOf i).toNat)
  case atStart => exact ⟨0, rfl, Nat.zero_le _, Kept.refl _ _⟩
  case round =>
    obtain ⟨k, rfl, hk, HKR⟩ := hrel
    clear a0 a1 a2 a3 b0 b1 b2 b3
    by_cases hlt : k < n
    · obtain ⟨g0, o0, rfl, _, hcell⟩ := (HZ.out.resolve_left (by omega))
      obtain ⟨g1, o1, rfl, _, hcell2⟩ := (HU.out.resolve_left (by omega))
      have q1 := (HK2.out.then HKR.out).cellOf (hcell k hlt) (by simp)
      have q2 := (HK2.out.then HKR.out).cellOf (hcell2 k hlt) (by simp)
      have a2 := cell_of_heap (HKR.out.heap HA.out (by simp)) 2
      have b2 := cell_of_heap (HKR.out.heap HB.out (by simp)) 2
      clear hcell hcell2
      go_wp2_with fail
      go_region_with (fail)
      all_goals
        go_wp2
        go_roundw
        case rel => exact ⟨k + 1, by go_num, by omega, hid HKR.out.drew⟩
        case measure => simp [intOf]; omega
    · obtain rfl : k = n := by omega
      go_wp2
      go_ret
      exact ⟨rfl, HK2.out.then HKR.out⟩
end

end Go.Proofs.YtofmickjbpkgbaaGreatDoor
