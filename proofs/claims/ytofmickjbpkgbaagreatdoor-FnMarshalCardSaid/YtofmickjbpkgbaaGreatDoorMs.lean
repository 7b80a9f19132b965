import Derived.Test.YtofmickjbpkgbaaGreatDoorMr
import Derived.Deep.DeepCutAuto
set_option maxRecDepth 100000
namespace Go.Proofs.YtofmickjbpkgbaaGreatDoor
section
open Go.RowKit

theorem val_unique {n m : Nat} {x y : Nat → Nat} (hn : n ≤ 3) (hm : m ≤ 3) (hx : ∀ j, j < n → x j < 18446744073709551616) (hy : ∀ j, j < m → y j < 18446744073709551616) (hxn : n = 0 ∨ x (n - 1) ≠ 0) (hym : m = 0 ∨ y (m - 1) ≠ 0) (h : val x n = val y m) : n = m ∧ ∀ j, j < n → x j = y j := by
  have vx : ∀ (x : Nat → Nat), val x 0 = 0 ∧ val x 1 = x 0 ∧ val x 2 = x 0 + x 1 * 18446744073709551616 ∧ val x 3 = x 0 + x 1 * 18446744073709551616 + x 2 * 340282366920938463463374607431768211456 := by
    intro x
    refine ⟨rfl, by simp [val], by simp [val], by simp [val]⟩
  obtain ⟨x0, x1, x2, x3⟩ := vx x
  obtain ⟨y0, y1, y2, y3⟩ := vx y
  rcases (by omega : n = 0 ∨ n = 1 ∨ n = 2 ∨ n = 3) with rfl | rfl | rfl | rfl <;>
  rcases (by omega : m = 0 ∨ m = 1 ∨ m = 2 ∨ m = 3) with rfl | rfl | rfl | rfl
  all_goals
    simp only [x0, x1, x2, x3, y0, y1, y2, y3] at h
    have a0 := hx 0
    have a1 := hx 1
    have a2 := hx 2
    have b0 := hy 0
    have b1 := hy 1
    have b2 := hy 2
    simp at hxn hym a0 a1 a2 b0 b1 b2
    first
      | (exfalso; omega)
      | (refine ⟨rfl, fun j hj => ?_⟩
         rcases (by omega : j = 0 ∨ j = 1 ∨ j = 2) with rfl | rfl | rfl <;> omega)

/-- The Dec that the law marshals lies in block g. -/
def Made9 (w : World) (g : Nat) : Prop := ∃ (f n : Nat) (neg : Bool) (ex : Int) (x : Nat → Nat) (ao : Option Addr) (m c : Nat) (e : Int), (f = 0 ∨ f = 1 ∨ f = 3) ∧ -100 ≤ ex ∧ ex ≤ 100 ∧ val x n < 2 ^ (64 * 3) ∧
  w.heap[g]? = some (.cells #[.int .i64 f, .bool neg, .slice ao m c, .int .i64 e] 30 (0, 0)) ∧ DecU w f neg ex n x (.agg #[.int .i64 f, .bool neg, .slice ao m c, .int .i64 e])

theorem made9_fin {w wx : World} {g n c : Nat} {ng : Bool} {ex : Int} {ao : Option Addr} {x : Nat → Nat} (hh : wx.heap[g]? = some (.cells #[.int .i64 0, .bool ng, .slice ao n c, .int .i64 ex] 30 (0, 0))) (hk : Kept [] w wx)
    (hn : n ≤ 3) (hc : n ≤ c) (hcc : c ≤ 9223372036854775807) (hw : Ws w ao n x) (hx : ∀ j, j < n → x j < 18446744073709551616) (ht : n = 0 ∨ x (n - 1) ≠ 0) (h1 : -100 ≤ ex) (h2 : ex ≤ 100) (hv : val x n < 2 ^ (64 * 3)) : Made9 wx g :=
  ⟨0, n, ng, ex, x, ao, n, c, ex, .inl rfl, h1, h2, hv, hh, .inl ⟨rfl, ao, c, rfl, hn, hc, hcc, hw.keep hk, hx, ht⟩⟩
theorem made9_word {wx : World} {g f : Nat} {neg : Bool} (hh : wx.heap[g]? = some (.cells #[.int .i64 f, .bool neg, .slice none 0 0, .int .i64 0] 30 (0, 0))) (hf : f = 1 ∨ f = 3) : Made9 wx g :=
  ⟨f, 0, neg, 0, fun _ => 0, none, 0, 0, 0, by omega, by omega, by omega, Nat.pow_pos (by omega), hh, .inr ⟨hf, rfl⟩⟩
theorem four_stores {w6 : World} {g : Nat} (hz : w6.heap[g]? = some (.cells #[.int .i64 0, .bool false, .slice none 0 0, .int .i64 0] 30 (0, 0))) (v0 v1 v2 v3 : Value) :
    ((((w6.setCell ⟨g, 0, none⟩ v0).setCell ⟨g, 1, none⟩ v1).setCell ⟨g, 2, none⟩ v2).setCell ⟨g, 3, none⟩ v3).heap[g]? = some (.cells #[v0, v1, v2, v3] 30 (0, 0)) :=
  heap_setCell_self (heap_setCell_self (heap_setCell_self (heap_setCell_self hz 0 v0) 1 v1) 2 v2) 3 v3
theorem kept_four {w w6 : World} {g : Nat} (hk : Kept [] w w6) (hg : w.heap.size ≤ g) (v0 v1 v2 v3 : Value) :
    Kept [] w ((((w6.setCell ⟨g, 0, none⟩ v0).setCell ⟨g, 1, none⟩ v1).setCell ⟨g, 2, none⟩ v2).setCell ⟨g, 3, none⟩ v3) :=
  (((hk.setCell ⟨g, 0, none⟩ v0 (.inr hg)).setCell ⟨g, 1, none⟩ v1 (.inr hg)).setCell ⟨g, 2, none⟩ v2 (.inr hg)).setCell ⟨g, 3, none⟩ v3 (.inr hg)

theorem Ws.ofSV {B n c : Nat} {w : World} {ao : Option Addr} {x : Nat → Nat} (h : SV (· = 23) B w (.slice ao n c) n (fun j => .int .u64 (x j : Nat))) : Ws w ao n x ∧ n ≤ c ∧ c ≤ 9223372036854775807 := by
  rcases h with ⟨h1, h2⟩ | ⟨g, c', t, h1, h2, h3, h4, h5, h6⟩
  · cases h1
    exact ⟨.inl rfl, by omega, by omega⟩
  · cases h1
    exact ⟨.inr ⟨g, 0, rfl, h6.lt, fun j hj => by rw [Nat.zero_add]; exact h6.cell hj⟩, h3, h4⟩

theorem same_dec {w : World} {f n zn zc um uc : Nat} {neg : Bool} {ex ze ue : Int} {x : Nat → Nat} {zo uo : Option Addr} (hz : DecR 0 w f neg ex (val x n) (.agg #[.int .i64 f, .bool neg, .slice zo zn zc, .int .i64 ze]))
    (hu : DecU w f neg ex n x (.agg #[.int .i64 f, .bool neg, .slice uo um uc, .int .i64 ue])) :
    ze = ue ∧ zn = um ∧ um ≤ 3 ∧ um ≤ zc ∧ zc ≤ 9223372036854775807 ∧ um ≤ uc ∧ uc ≤ 9223372036854775807 ∧ ∃ y, Ws w zo um y ∧ Ws w uo um y := by
  rcases hz with ⟨rfl, n', y, ao, c, h1, h2, h3, h4, h5, h6⟩ | ⟨hf, h1⟩
  · rcases hu with ⟨_, ao', c', k1, k2, k3, k4, k5, k6, k7⟩ | ⟨hf, _⟩
    · simp at h1 k1
      obtain ⟨⟨rfl, rfl, rfl⟩, rfl⟩ := h1
      obtain ⟨⟨rfl, rfl, rfl⟩, rfl⟩ := k1
      obtain ⟨rfl, hxy⟩ := val_unique h2 k2 h4 k6 h5 k7 h6
      obtain ⟨w1, w2, w3⟩ := Ws.ofSV h3
      refine ⟨rfl, rfl, h2, w2, w3, k3, k4, x, ?_, k5⟩
      rcases w1 with h | ⟨g, o, g1, g2, g3⟩
      · exact .inl h
      · exact .inr ⟨g, o, g1, g2, fun j hj => by rw [g3 j hj, hxy j hj]⟩
    · exact absurd hf (by decide)
  · rcases hu with ⟨hf', _⟩ | ⟨_, k1⟩
    · rcases hf with h | h <;> rw [h] at hf' <;> cases hf'
    · simp at h1 k1
      obtain ⟨⟨rfl, rfl, rfl⟩, rfl⟩ := h1
      obtain ⟨⟨rfl, rfl, rfl⟩, rfl⟩ := k1
      exact ⟨rfl, rfl, by omega, by omega, by omega, by omega, by omega, fun _ => 0, .inl rfl, .inl rfl⟩

theorem val_three {n : Nat} {x : Nat → Nat} (hn : n ≤ 3) (hx : ∀ j, j < n → x j < 18446744073709551616) : val x n < 2 ^ (64 * 3) := by
  have a0 := hx 0
  have a1 := hx 1
  have a2 := hx 2
  rcases (by omega : n = 0 ∨ n = 1 ∨ n = 2 ∨ n = 3) with rfl | rfl | rfl | rfl <;> simp [val] <;> omega

set_option maxHeartbeats 24000000 in
theorem fnMarshal_any (kind : Nat) (neg : Bool) (fm ex : Int) (ng : Bool) (n c : Nat) (ao : Option Addr) (x : Nat → Nat) (w : World) (hkind : kind < 256) (hc : n ≤ c) (hcc : c ≤ 9223372036854775807) (hw : Ws w ao n x) (hx : ∀ j, j < n → x j < 18446744073709551616) (hG : Glob2 w) :
    Calls Tryz.prog 4 #[.int .u8 kind, .bool neg, .agg #[.int .i64 fm, .bool ng, .slice ao n c, .int .i64 ex]] w fun e w' => e = .returned (.bool true) ∧ Kept [] w w' := by
  have hA := heap_alloc_new w (.cells #[.int .i64 fm, .bool ng, .slice ao n c, .int .i64 ex] 30)
  have hk1 := (Kept.refl [] w).alloc (.cells #[.int .i64 fm, .bool ng, .slice ao n c, .int .i64 ex] 30)
  have HA := hid hA
  have HK1 := hid hk1
  have HW := hid hw
  have HX := hid hx
  have HG := hid hG
  clear hA hk1 hw hx hG
  go_enter Tryz.func4, Tryz.ntmps4
  go_upto_region 1 with fail
  generalize w.alloc (.cells #[.int .i64 fm, .bool ng, .slice ao n c, .int .i64 ex] 30) = W1 at *
  have a0 := cell_of_heap HA.out 0
  have a1 := cell_of_heap HA.out 1
  have a2 := cell_of_heap HA.out 2
  have a3 := cell_of_heap HA.out 3
  go_wp2_with fail
  refine (zzFits_any fm ex ng n c ao W1).mono ?_
  rintro e w2 ⟨⟨r, rfl⟩, hk2⟩
  have hA2 := hk2.heap HA.out (by simp)
  have HA2 := hid hA2
  have HK2 := hid (HK1.out.then hk2)
  clear a0 a1 a2 a3 hA2 hk2 HA HK1
  cases r
  · go_wp2
    go_ret
    exact ⟨rfl, HK2.out⟩
  have a0 := cell_of_heap HA2.out 0
  have a1 := cell_of_heap HA2.out 1
  have a2 := cell_of_heap HA2.out 2
  have a3 := cell_of_heap HA2.out 3
  go_wp2_with fail
  refine (finite_any fm ex ng n c ao x w2 hc hcc (HW.out.keep HK2.out) HX.out).mono ?_
  rintro e w3 ⟨⟨b, ao', n', c', ex', ok, rfl, hr⟩, hk3⟩
  have hA3 := hk3.heap HA2.out (by simp)
  have HA3 := hid hA3
  have HK3 := hid (HK2.out.then hk3)
  have HR := hid hr
  clear a0 a1 a2 a3 hA3 hk3 HA2 HK2 hr
  cases ok
  · go_wp2
    go_ret
    exact ⟨rfl, HK3.out.alloc _⟩
  obtain ⟨hn3, hx1, hx2, hf0, htop⟩ := HR.out rfl
  subst hf0
  have HTOP := hid htop
  clear htop HR
  go_upto_region 6 with fail
  have hA4 := heap_alloc_old' HA3.out (.cells #[.bool b, .slice ao' n' c', .int .i64 ex'] 36)
  have HK4 := hid (HK3.out.alloc (.cells #[.bool b, .slice ao' n' c', .int .i64 ex'] 36))
  have HA4 := hid hA4
  clear hA4 HA3 HK3
  generalize w3.alloc (.cells #[.bool b, .slice ao' n' c', .int .i64 ex'] 36) = W4 at *
  go_cut [9] (fun s9 wx => ∃ g, s9 = .pointer (some ⟨g, 0, none⟩) ∧ Hid (Made9 wx g) ∧ Hid (Kept [] w wx))
  case first =>
    have a0 := cell_of_heap HA4.out 0
    have a1 := cell_of_heap HA4.out 1
    have a2 := cell_of_heap HA4.out 2
    have a3 := cell_of_heap HA4.out 3
    have hlt4 : w.heap.size < W4.heap.size := lt_of_heap HA4.out
    rcases (by omega : kind % 3 = 0 ∨ kind % 3 = 1 ∨ kind % 3 = 2) with h | h | h
    · have h1 : (kind : Int) % 3 = 0 := by omega
      have h2 : (kind : Int).tmod 3 = 0 := by rw [Int.tmod_eq_emod_of_nonneg (by omega)]; exact h1
      clear h
      go_region_with (go_at_call 10; refine (ofKind_any 0 neg 0 ex ng n c ao _ (by decide)).mono ?_; rintro e w6 ⟨he, hk6⟩; rw [if_pos rfl] at he; subst he; have HKW : Hid (Kept [] w w6) := (by refine HK4.out.then (Kept.then ?_ hk6); repeat (first | exact Kept.refl _ _ | refine Kept.drew ?_ | refine Kept.alloc ?_ _)); (first | (have hz := hk6.heap (two_allocs W4 (.cells #[.int .u8 0, .int .u8 1, .int .u8 3] 5) (.cells #[.int .i64 0, .bool false, .slice none 0 0, .int .i64 0] 30)) (by simp); have HST := hid hz) | (have hz := hk6.heap (heap_alloc_old' (heap_alloc_new W4 (.cells #[.int .i64 0, .bool false, .slice none 0 0, .int .i64 0] 30)) (.cells #[.int .u8 0, .int .u8 1, .int .u8 3] 5)) (by simp); have HST := hid hz) | (have hz := heap_alloc_new w6 (.cells #[.int .i64 0, .bool false, .slice none 0 0, .int .i64 0] 30))); have z0 := cell_of_heap hz 0; have z1 := cell_of_heap hz 1; have z2 := cell_of_heap hz 2; have z3 := cell_of_heap hz 3; have fz := frozen_of_heap hz; have HZ := hid hz; clear hz hk6)
      all_goals
        clear a0 a1 a2 a3
        have hs1 := HK4.out.size
        have hs2 := HKW.out.size
        go_wp2_with fail
        go_meet
        first
          | exact ⟨_, rfl, hid (made9_fin (four_stores HST.out _ _ _ _) (kept_four HKW.out (by omega) _ _ _ _) hn3 hc hcc HW.out HX.out HTOP.out hx1 hx2 (val_three hn3 HX.out)), hid (kept_four HKW.out (by omega) _ _ _ _)⟩
          | exact ⟨_, rfl, hid (made9_fin (heap_alloc_new w6 _) (HKW.out.alloc _) hn3 hc hcc HW.out HX.out HTOP.out hx1 hx2 (val_three hn3 HX.out)), hid (HKW.out.alloc _)⟩
    · have h1 : (kind : Int) % 3 = 1 := by omega
      have h2 : (kind : Int).tmod 3 = 1 := by rw [Int.tmod_eq_emod_of_nonneg (by omega)]; exact h1
      clear h
      go_region_with (go_at_call 10; refine (ofKind_any 1 neg 0 ex ng n c ao _ (by decide)).mono ?_; rintro e w6 ⟨he, hk6⟩; rw [if_neg (by decide)] at he; subst he; have HKW : Hid (Kept [] w w6) := (by refine HK4.out.then (Kept.then ?_ hk6); repeat (first | exact Kept.refl _ _ | refine Kept.drew ?_ | refine Kept.alloc ?_ _)); (first | (have hz := hk6.heap (two_allocs W4 (.cells #[.int .u8 0, .int .u8 1, .int .u8 3] 5) (.cells #[.int .i64 0, .bool false, .slice none 0 0, .int .i64 0] 30)) (by simp); have HST := hid hz) | (have hz := hk6.heap (heap_alloc_old' (heap_alloc_new W4 (.cells #[.int .i64 0, .bool false, .slice none 0 0, .int .i64 0] 30)) (.cells #[.int .u8 0, .int .u8 1, .int .u8 3] 5)) (by simp); have HST := hid hz) | (have hz := heap_alloc_new w6 (.cells #[.int .i64 0, .bool false, .slice none 0 0, .int .i64 0] 30))); have z0 := cell_of_heap hz 0; have z1 := cell_of_heap hz 1; have z2 := cell_of_heap hz 2; have z3 := cell_of_heap hz 3; have fz := frozen_of_heap hz; have HZ := hid hz; clear hz hk6)
      all_goals
        clear a0 a1 a2 a3
        have hs1 := HK4.out.size
        have hs2 := HKW.out.size
        go_wp2_with fail
        go_meet
        first
          | exact ⟨_, rfl, hid (made9_word (f := 1) (four_stores HST.out _ _ _ _) (by decide)), hid (kept_four HKW.out (by omega) _ _ _ _)⟩
          | exact ⟨_, rfl, hid (made9_word (f := 1) (heap_alloc_new w6 _) (by decide)), hid (HKW.out.alloc _)⟩
    · have h1 : (kind : Int) % 3 = 2 := by omega
      have h2 : (kind : Int).tmod 3 = 2 := by rw [Int.tmod_eq_emod_of_nonneg (by omega)]; exact h1
      clear h
      go_region_with (go_at_call 10; refine (ofKind_any 3 neg 0 ex ng n c ao _ (by decide)).mono ?_; rintro e w6 ⟨he, hk6⟩; rw [if_neg (by decide)] at he; subst he; have HKW : Hid (Kept [] w w6) := (by refine HK4.out.then (Kept.then ?_ hk6); repeat (first | exact Kept.refl _ _ | refine Kept.drew ?_ | refine Kept.alloc ?_ _)); (first | (have hz := hk6.heap (two_allocs W4 (.cells #[.int .u8 0, .int .u8 1, .int .u8 3] 5) (.cells #[.int .i64 0, .bool false, .slice none 0 0, .int .i64 0] 30)) (by simp); have HST := hid hz) | (have hz := hk6.heap (heap_alloc_old' (heap_alloc_new W4 (.cells #[.int .i64 0, .bool false, .slice none 0 0, .int .i64 0] 30)) (.cells #[.int .u8 0, .int .u8 1, .int .u8 3] 5)) (by simp); have HST := hid hz) | (have hz := heap_alloc_new w6 (.cells #[.int .i64 0, .bool false, .slice none 0 0, .int .i64 0] 30))); have z0 := cell_of_heap hz 0; have z1 := cell_of_heap hz 1; have z2 := cell_of_heap hz 2; have z3 := cell_of_heap hz 3; have fz := frozen_of_heap hz; have HZ := hid hz; clear hz hk6)
      all_goals
        clear a0 a1 a2 a3
        have hs1 := HK4.out.size
        have hs2 := HKW.out.size
        go_wp2_with fail
        go_meet
        first
          | exact ⟨_, rfl, hid (made9_word (f := 3) (four_stores HST.out _ _ _ _) (by decide)), hid (kept_four HKW.out (by omega) _ _ _ _)⟩
          | exact ⟨_, rfl, hid (made9_word (f := 3) (heap_alloc_new w6 _) (by decide)), hid (HKW.out.alloc _)⟩
  case rest =>
    obtain ⟨g, rfl, HM, HKX⟩ := hcut
    clear HA4 HK4 HTOP
    obtain ⟨f, n2, neg2, ex2, x2, uo, um, uc, ue, hf, he1, he2, hV, hh, hu⟩ := HM.out
    have HU := hid hu
    have HV := hid hV
    have HH := hid hh
    have a0 := cell_of_heap hh 0
    have a1 := cell_of_heap hh 1
    have a2 := cell_of_heap hh 2
    have a3 := cell_of_heap hh 3
    have H11 := hid (marshal_any f n2 neg2 ex2 x2 _ wc hu ⟨he1, he2⟩ (HG.out.keep HKX.out))
    clear HM hu hV hh
    go_wp2_with fail
    refine (H11.out).mono ?_
    rintro e w7 ⟨L, v, hT, rfl, hB, hk7⟩
    have HT := hid hT
    have HB := hid hB
    have HK7 := hid (HKX.out.then hk7)
    have HH7 := hid (hk7.heap HH.out (by simp))
    have HU7 := hid (HU.out.keep hk7)
    obtain ⟨vo, vc, rfl⟩ := hB.shape
    have H12 := hid (unmarshal_any f (val x2 n2) neg2 ex2 L _ _ w7 hT HV.out ⟨he1, he2⟩ (HG.out.keep HK7.out) hf hB)
    clear hT hB hk7 H11 a0 a1 a2 a3 HH HU HKX
    go_wp2_with fail
    refine (H12.out).mono ?_
    rintro e w8 ⟨z, rfl, hz, hk8⟩
    obtain ⟨zo, zn, zc, ze, rfl⟩ := hz.shape
    have HZ := hid hz
    have HK8 := hid (HK7.out.then hk8)
    have HH8 := hid (hk8.heap HH7.out (by simp))
    have HU8 := hid (HU7.out.keep hk8)
    have HB8 := hid (HB.out.kept hk8 (by simp))
    clear hz hk8 H12 HH7 HU7 HK7 HB
    go_upto_region 9 with fail
    obtain ⟨rfl, rfl, hu3, hzc, hzcc, huc, hucc, y, hwz, hwu⟩ := same_dec HZ.out HU8.out
    have H14 : Hid (∀ w', Kept [] w8 w' → _) := hid fun w' h => equal_any (f : Int) ze neg2 zn zc uc zo uo y w' hu3 hzc hzcc huc hucc (hwz.keep h) (hwu.keep h)
    have H13 : Hid (∀ w', Kept [] w8 w' → _) := hid fun w' h => implText_any f n2 neg2 ex2 x2 _ w' (HU8.out.keep h) ⟨he1, he2⟩ (HG.out.keep (HK8.out.then h))
    have hne := HT.out.ne ⟨he1, he2⟩
    have hk9 := (Kept.refl [] w8).alloc (.cells #[.int .i64 f, .bool neg2, .slice zo zn zc, .int .i64 ze] 30)
    have hB9 := heap_alloc_new w8 (.cells #[.int .i64 f, .bool neg2, .slice zo zn zc, .int .i64 ze] 30)
    generalize w8.alloc (.cells #[.int .i64 f, .bool neg2, .slice zo zn zc, .int .i64 ze] 30) = W9 at *
    have hA9 := hk9.heap HH8.out (by simp)
    have HA9 := hid hA9
    have HB9 := hid hB9
    have HK9 := hid hk9
    have HBS := hid (HB8.out.kept hk9 (by simp))
    have c0 := run_convert_bs HBS.out hne
    have c1 := run_convert_bs HBS.out.drew hne
    have a0 := cell_of_heap hA9 0
    have a1 := cell_of_heap hA9 1
    have a2 := cell_of_heap hA9 2
    have a3 := cell_of_heap hA9 3
    have b0 := cell_of_heap hB9 0
    have b1 := cell_of_heap hB9 1
    have b2 := cell_of_heap hB9 2
    have b3 := cell_of_heap hB9 3
    have HNE := hid hne
    clear hA9 hB9 hk9 hwz hwu hne HH8 HU8 HZ HB8
    go_region_with (first | (go_at_call 13; refine (H13.out _ (by first | exact HK9.out | exact HK9.out.drew | exact HK9.out.drewN _)).mono ?_; rintro e w10 ⟨L', hT', he, hk10⟩; rw [hT'.unique HT.out] at he; subst he; have hk10' : Kept [] W9 w10 := (by first | exact hk10 | exact hk10.ofDrew | exact ((Kept.refl [] W9).drewN _).then hk10); have hA10 := hk10'.heap HA9.out (by simp); have hB10 := hk10'.heap HB9.out (by simp); have c2 := run_convert_bs (HBS.out.kept hk10' (by simp)) HNE.out; have a0' := cell_of_heap hA10 0; have a1' := cell_of_heap hA10 1; have a2' := cell_of_heap hA10 2; have a3' := cell_of_heap hA10 3; have b0' := cell_of_heap hB10 0; have b1' := cell_of_heap hB10 1; have b2' := cell_of_heap hB10 2; have b3' := cell_of_heap hB10 3; have HK10 := hid (HK9.out.then hk10'); clear hT' hk10 hk10' hA10 hB10) | (go_at_call 14; refine (H14.out _ (by first | exact HK10.out | exact HK10.out.drew | exact HK10.out.drewN _)).mono ?_; rintro e w11 ⟨rfl, hk11⟩; have HK11 : Hid (Kept [] w8 w11) := hid (by first | exact HK10.out.then hk11 | exact HK10.out.drew.then hk11 | exact (HK10.out.drewN _).then hk11); clear hk11))
    all_goals
      go_wp2
      go_ret
      exact ⟨rfl, by first | exact HK8.out.then HK11.out | exact (HK8.out.then HK11.out).drew⟩
end

end Go.Proofs.YtofmickjbpkgbaaGreatDoor
