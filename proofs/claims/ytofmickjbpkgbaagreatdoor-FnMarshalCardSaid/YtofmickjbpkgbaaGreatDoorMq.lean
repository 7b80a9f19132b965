import Derived.Test.YtofmickjbpkgbaaGreatDoorMd
import Derived.Laws.Bits64b
set_option maxRecDepth 100000
namespace Go.Proofs.YtofmickjbpkgbaaGreatDoor
section
open Go.RowKit

theorem trim_any (T : TypeId → Prop) (B n : Nat) (g c : Nat) (x : Nat → Nat) (w : World) (hn : n ≤ 900000) (hc : n ≤ c) (hcc : c ≤ 9223372036854775807) (t : TypeId) (hR : Row w g t c (fun j => .int .i64 (x j : Nat)) n) :
    Calls Tryz.prog 15 #[.slice (some ⟨g, 0, none⟩) n c] w fun e w' => ∃ m, NormAt x n m ∧ e = .returned (.slice (some ⟨g, 0, none⟩) m c) ∧ w' = w := by
  go_enter Tryz.func15, Tryz.ntmps15
  go_wp2
  go_loop [0] (fun v => ∃ i : Nat, i ≤ n ∧ v = .slice (some ⟨g, 0, none⟩) i c ∧ Hid (∀ j, i ≤ j → j < n → x j = 0)) (fun v => match v with | .slice _ l _ => l | _ => 0)
  case atStart => exact ⟨n, Nat.le_refl _, rfl, fun j _ _ => by omega⟩
  case round =>
    obtain ⟨i, hi, rfl, HZ⟩ := hrel
    by_cases h0 : 0 < i
    · have hci := hR.cell (j := i - 1) (by omega)
      go_wp2
      · have h : ((x (i - 1) : Int) == 0) = true := by assumption
        refine ⟨⟨i - 1, by omega, rfl, fun j hj hl => ?_⟩, by show i - 1 < i; omega⟩
        by_cases e : j = i - 1
        · subst e; simpa using h
        · exact HZ.out j (by omega) hl
      · have h : ((x (i - 1) : Int) == 0) = false := by assumption
        go_ret
        exact ⟨i, ⟨hi, Or.inr (by simpa using h), HZ.out⟩, rfl, rfl⟩
    · obtain rfl : i = 0 := by omega
      go_wp2
      go_ret
      exact ⟨0, ⟨hi, Or.inl rfl, HZ.out⟩, rfl, rfl⟩

theorem SV.own_ge {T : TypeId → Prop} {B n k : Nat} {w : World} {v : Value} {f : Nat → Value} (h : SV T B w v n f) (hk : v.ownBlock = some k) : B ≤ k := by
  rcases h with ⟨rfl, _⟩ | ⟨g, c, t, rfl, h1, _, _, _, h6⟩
  · simp [Value.ownBlock] at hk
  · simp [Value.ownBlock] at hk; subst hk; exact h1

/-- The limbs of the words x 0, x 1, ..: four of 16 bits to a word. -/
def limb (x : Nat → Nat) (j : Nat) : Nat := x (j / 4) / 65536 ^ (j % 4) % 65536

theorem limb_lt (x : Nat → Nat) (j : Nat) : limb x j < 65536 := Nat.mod_lt _ (by omega)

theorem bits_and_mask (V : Nat) (hV : V < 18446744073709551616) : bits .and .u64 (V : Int) 65535 = ((V % 65536 : Nat) : Int) := by
  have := Go.bits_and_u64_nat V 65535 hV (by omega)
  rw [show (65535 : Nat) = 2 ^ 16 - 1 from rfl, Nat.and_two_pow_sub_one_eq_mod] at this
  exact this

set_option maxHeartbeats 4000000 in
theorem of_any (n c : Nat) (ao : Option Addr) (x : Nat → Nat) (w : World) (hn : n ≤ 1000) (hc : n ≤ c) (hcc : c ≤ 9223372036854775807) (hx : ∀ j, j < n → x j < 18446744073709551616)
    (hcell : n = 0 ∨ ∃ g o, ao = some ⟨g, o, none⟩ ∧ g < w.heap.size ∧ ∀ j, j < n → w.cell? ⟨g, o + j, none⟩ = some (.int .u64 (x j : Nat))) :
    Calls Tryz.prog 6 #[.slice ao n c] w fun e w' => ∃ g m c', e = .returned (.slice (some ⟨g, 0, none⟩) m c') ∧ NormAt (limb x) (4 * n) m ∧ w.heap.size ≤ g ∧ m ≤ c' ∧ c' ≤ 9223372036854775807 ∧
      Row w' g 3 c' (fun j => .int .i64 (limb x j : Nat)) (4 * n) ∧ Kept [] w w' := by
  obtain ⟨i3, hi3, hz30, hz31, hz32⟩ := info_parts Tryz.info3
  have HC := hid hcell
  have HX := hid hx
  clear hcell hx
  go_enter Tryz.func6, Tryz.ntmps6
  go_wp2
  have hnew := heap_alloc_new w (.cells #[] 3)
  go_loopw [3, 10] (fun v i wr => ∃ k : Nat, i = .int .i64 k ∧ k ≤ n ∧ Hid (SV (· = 3) w.heap.size wr v (4 * k) (fun j => .int .i64 (limb x j : Nat))) ∧ Hid (v ≠ .slice none 0 0) ∧ Kept [] w wr) (fun _ i _ => n - (intOf i).toNat)
  case atStart =>
    refine ⟨0, rfl, Nat.zero_le _, .inr ⟨w.heap.size, 0, 3, rfl, Nat.le_refl _, Nat.le_refl _, by omega, rfl, _, hnew, rfl, fun j hj => by omega⟩, hid (fun h => by cases h), (Kept.refl _ _).alloc _⟩
  case round =>
    obtain ⟨k, rfl, hk, HS, HNE, hkp⟩ := hrel
    by_cases hkn : k < n
    · obtain ⟨g, o, hao, hg, hcs⟩ : ∃ g o, ao = some ⟨g, o, none⟩ ∧ g < w.heap.size ∧ ∀ j, j < n → w.cell? ⟨g, o + j, none⟩ = some (.int .u64 (x j : Nat)) := HC.out.resolve_left (by omega)
      subst hao
      have hck := hkp.cellOf (hcs k hkn) (by simp)
      have hxk := HX.out k hkn
      have hlk : ∀ j, j < 4 → limb x (4 * k + j) = x k / 65536 ^ j % 65536 := fun j hj => by
        unfold limb
        rw [show (4 * k + j) / 4 = k by omega, show (4 * k + j) % 4 = j by omega]
      have HLK := hid hlk
      clear hlk
      obtain ⟨X, hX⟩ : ∃ X, X = x k := ⟨_, rfl⟩
      rw [← hX] at hck hxk
      have HXX := hid hX
      clear hX hcs
      go_wp2
      obtain ⟨wo, rfl⟩ : ∃ wo : World, wo = wr := ⟨_, rfl⟩
      go_loopw [3, 6] (fun v i wr => ∃ j : Nat, i = .int .i64 j ∧ j ≤ 4 ∧ Hid (SV (· = 3) w.heap.size wr v (4 * k + j) (fun j => .int .i64 (limb x j : Nat))) ∧ Hid (v ≠ .slice none 0 0) ∧ Kept [] w wr) (fun _ i _ => 4 - (intOf i).toNat)
      case atStart => exact ⟨0, rfl, by omega, HS, HNE, hkp⟩
      case round =>
        obtain ⟨j, rfl, hj, HS2, HNE2, hkp2⟩ := hrel
        by_cases hj4 : j < 4
        · have hlj := HLK.out j hj4
          have hmk := bits_and_mask (x k / 65536 ^ j) (Nat.lt_of_le_of_lt (Nat.div_le_self _ _) (by rw [← HXX.out]; exact hxk))
          rw [← hlj, ← HXX.out] at hmk
          have hL := limb_lt x (4 * k + j)
          have hzz : (fun j => Value.int .i64 (limb x j : Nat)) (4 * k + j) = .int .i64 (limb x (4 * k + j) : Nat) := rfl
          have HLZ : Hid (∀ v' : Value, ∀ w' : World, ∀ L : Nat, L = limb x (4 * k + j) → SV (· = 3) w.heap.size w' v' (4 * k + j + 1) (appF (4 * k + j) (fun j => .int .i64 (limb x j : Nat)) (fun _ => .int .i64 (L : Nat))) → SV (· = 3) w.heap.size w' v' (4 * k + (j + 1)) (fun j => .int .i64 (limb x j : Nat))) := by
            intro v' w' L e h
            subst e
            refine h.congr fun i hi => ?_
            unfold appF
            split
            · rfl
            · have : i = 4 * k + j := by omega
              rw [this]
          have hsz := hkp2.size
          clear hzz hlj
          obtain ⟨L, hLe⟩ : ∃ L, L = limb x (4 * k + j) := ⟨_, rfl⟩
          rw [← hLe] at hmk hL
          have HLE := hid hLe
          have HN2 : Hid (∀ v' : Value, ∀ w' : World, SV (· = 3) w.heap.size w' v' (4 * k + (j + 1)) (fun j => .int .i64 (limb x j : Nat)) → v' ≠ .slice none 0 0) := by
            intro v' w' h e
            rcases h with ⟨_, h⟩ | ⟨_, _, _, h, _⟩
            · omega
            · rw [e] at h; cases h
          clear hLe
          rcases (by omega : j = 0 ∨ j = 1 ∨ j = 2 ∨ j = 3) with rfl | rfl | rfl | rfl
          all_goals simp at hmk
          all_goals
            go_wp2_with (at_builtin; refine wpList_append_sv _ rfl (.tmp 18) (.tmp 25) 27 27 rfl 3 i3 (.int .i64 0) 8 Tryz.underlying27 hi3 hz30 hz31 hz32 rfl (· = 3) rfl w.heap.size _ 1 _ _ (fun j => .int .i64 (limb x j : Nat)) (fun _ => .int .i64 (L : Nat)) rfl (HS2.out.alloc _) rfl (Src.one _ 27 3 3 _ Tryz.underlying27 rfl) (by omega) (by omega) (by simp; omega) ?_)
            intro v1 w1 hv1 hk1 ho1
            have hkk : Kept [] w w1 := (hkp2.alloc (.cells #[.int .i64 (L : Nat)] 3)).trans hk1 (by simp) (fun y hy => .inr (HS2.out.own_ge (by simpa using hy)))
            have HV1 := hid (HLZ.out v1 w1 L HLE.out hv1)
            clear hv1 hk1 ho1
            go_wp2
            refine ⟨?_, by simp [intOf]⟩
            first | exact ⟨0 + 1, rfl, by omega, HV1.out, HN2.out _ _ HV1.out, hkk⟩ | exact ⟨1 + 1, rfl, by omega, HV1.out, HN2.out _ _ HV1.out, hkk⟩ | exact ⟨2 + 1, rfl, by omega, HV1.out, HN2.out _ _ HV1.out, hkk⟩ | exact ⟨3 + 1, rfl, by omega, HV1.out, HN2.out _ _ HV1.out, hkk⟩
        · obtain rfl : j = 4 := by omega
          go_wp2
          go_roundw
          case rel => exact ⟨k + 1, by go_num, by omega, by rw [show 4 * (k + 1) = 4 * k + 4 by omega]; exact HS2, HNE2, hkp2⟩
          case measure => simp [intOf]; omega
    · obtain rfl : k = n := by omega
      rcases HS.out with ⟨h, _⟩ | ⟨g, c', t, rfl, h1, h2, h3, rfl, h5⟩
      · exact absurd h HNE.out
      · go_wp2_with fail
        refine (trim_any (· = 3) 0 (4 * k) g c' (limb x) wr (by omega) h2 h3 3 h5).mono ?_
        rintro e w2 ⟨m, hm, rfl, rfl⟩
        have HM := hid hm
        have H5 := hid h5
        have hm1 := hm.1
        clear hm h5
        go_wp2
        go_ret
        exact ⟨g, m, c', rfl, HM.out, h1, by omega, h3, H5.out, hkp⟩
end

section
open Go.RowKit

/-- A slice of m words, no matter which. -/
def WW (B : Nat) (w : World) (v : Value) (m : Nat) : Prop := ∃ y : Nat → Int, SV (· = 23) B w v m (fun j => .int .u64 (y j)) ∧ v ≠ .slice none 0 0

theorem WW.row {B : Nat} {w : World} {v : Value} {m : Nat} (h : WW B w v m) : ∃ (g c : Nat) (y : Nat → Int), v = .slice (some ⟨g, 0, none⟩) m c ∧ B ≤ g ∧ m ≤ c ∧ c ≤ 9223372036854775807 ∧ Row w g 23 c (fun j => .int .u64 (y j)) m := by
  obtain ⟨y, ⟨h1, _⟩ | ⟨g, c, t, h1, h2, h3, h4, h5, h6⟩, hne⟩ := h
  · exact absurd h1 hne
  · subst h5
    exact ⟨g, c, y, h1, h2, h3, h4, h6⟩

theorem WW.store {B : Nat} {w : World} {g c m : Nat} {y : Nat → Int} (hB : B ≤ g) (hc : m ≤ c) (hcc : c ≤ 9223372036854775807) (hR : Row w g 23 c (fun j => .int .u64 (y j)) m) (q : Nat) (z : Int) (hq : q < m) : WW B (w.setCell ⟨g, q, none⟩ (.int .u64 z)) (.slice (some ⟨g, 0, none⟩) m c) m :=
  ⟨fun j => if j = q then z else y j, .inr ⟨g, c, 23, rfl, hB, hc, hcc, rfl, hR.store q (.int .u64 z) (by omega) (fun i hi => .inr hi) (fun _ => by simp) (fun i hi h0 => by simp [h0])⟩, fun h => by cases h⟩

theorem ww_append {B m : Nat} {w : World} {v : Value} {y : Nat → Int} (h : SV (· = 23) B w v (m + 1) (appF m (fun j => .int .u64 (y j)) (fun _ => .int .u64 0))) : WW B w v (m + 1) := by
  refine ⟨fun j => if j < m then y j else 0, h.congr fun j hj => ?_, ?_⟩
  · unfold appF
    dsimp only
    split <;> rfl
  · rcases h with ⟨_, h⟩ | ⟨g, c, t, h, _⟩
    · omega
    · rw [h]; intro h2; cases h2

set_option maxHeartbeats 16000000 in
/-- spec.Words of at most 12 limbs: how many words. -/
theorem words_len (K g c t : Nat) (x : Nat → Nat) (w : World) (hK : K ≤ 12) (hc : K ≤ c) (hcc : c ≤ 9223372036854775807) (hR : Row w g t c (fun j => .int .i64 (limb x j : Nat)) K) :
    Calls Tryz.prog 5 #[.slice (some ⟨g, 0, none⟩) K c] w fun e w' => ∃ v, e = .returned v ∧ WW w.heap.size w' v ((K + 3) / 4) ∧ Kept [] w w' := by
  obtain ⟨i23, hi23, hz230, hz231, hz232⟩ := info_parts Tryz.info23
  have hnew := heap_alloc_new w (.cells #[] 23)
  have HR := hid hR
  have hgl := hR.lt
  clear hR
  go_enter Tryz.func5, Tryz.ntmps5
  go_wp2
  go_loopw [3, 9] (fun v i wr => ∃ k : Nat, i = .int .i64 k ∧ k ≤ K ∧ Hid (WW w.heap.size wr v ((k + 3) / 4)) ∧ Hid (Kept [] w wr)) (fun _ i _ => K - (intOf i).toNat)
  case atStart =>
    exact ⟨0, rfl, Nat.zero_le _, hid ⟨fun _ => 0, .inr ⟨w.heap.size, 0, 23, rfl, Nat.le_refl _, Nat.le_refl _, by omega, rfl, _, hnew, rfl, fun j hj => absurd hj (Nat.not_lt_zero j)⟩, fun h => by cases h⟩, hid ((Kept.refl _ _).alloc _)⟩
  case round =>
    obtain ⟨k, rfl, hk, HS, HK⟩ := hrel
    by_cases hkn : k < K
    · have hck := HK.out.cellOf (HR.out.cell hkn) (by simp)
      have hL := limb_lt x k
      generalize limb x k = L at hck hL
      have hsz := HK.out.size
      clear hnew
      have wr0 : IntKind.i64.wrap 0 = 0 := by decide
      have wr1 : IntKind.i64.wrap 1 = 1 := by decide
      have wr2 : IntKind.i64.wrap 2 = 2 := by decide
      have wr16 : IntKind.i64.wrap 16 = 16 := by decide
      have wr32 : IntKind.i64.wrap 32 = 32 := by decide
      have wr48 : IntKind.i64.wrap 48 = 48 := by decide
      have wrL : IntKind.u64.wrap (L : Int) = (L : Int) := u64_id rfl (by omega)
      rcases (by omega : k = 0 ∨ k = 1 ∨ k = 2 ∨ k = 3 ∨ k = 4 ∨ k = 5 ∨ k = 6 ∨ k = 7 ∨ k = 8 ∨ k = 9 ∨ k = 10 ∨ k = 11) with rfl | rfl | rfl | rfl | rfl | rfl | rfl | rfl | rfl | rfl | rfl | rfl
      · obtain ⟨g1, c1, y, rfl, hg1, hc1, hc1', hR1⟩ := (show WW w.heap.size wr u3 0 from HS.out).row
        have HSV : Hid (SV (· = 23) w.heap.size wr (.slice (some ⟨g1, 0, none⟩) 0 c1) 0 (fun j => .int .u64 (y j))) := hid (.inr ⟨g1, c1, 23, rfl, hg1, hc1, hc1', rfl, hR1⟩)
        clear hR1 hc1 hc1' HS
        go_wp2_with (at_builtin; refine wpList_append_sv _ rfl (.tmp 17) (.tmp 18) 24 24 rfl 23 i23 (.int .u64 0) 8 Tryz.underlying24 hi23 hz230 hz231 hz232 rfl (· = 23) rfl w.heap.size 0 1 _ _ (fun j => .int .u64 (y j)) (fun _ => .int .u64 0) rfl (HSV.out.alloc _) rfl (Src.one _ 24 23 23 _ Tryz.underlying24 rfl) (by omega) (by omega) (by simp; omega) ?_)
        intro v1 w1 hv1 hk1 ho1
        have hkk : Kept [] w w1 := (HK.out.alloc (.cells #[.int .u64 0] 23)).trans hk1 (by simp) (fun y hy => .inr (HSV.out.own_ge (by simpa using hy)))
        have hww : WW w.heap.size w1 v1 1 := ww_append hv1
        obtain ⟨g2, c2, y2, rfl, hg2, hc2, hc2', hR2⟩ := hww.row
        have q1 := hR2.cell (j := 0) (by omega)
        have fr := hR2.free 0
        have HR2 := hid hR2
        have HKK := hid hkk
        clear hv1 hk1 ho1 hww hR2 hkk HSV
        go_wp2
        go_region_with (fail)
        go_wp2
        exact ⟨⟨1, rfl, by omega, hid (WW.store hg2 hc2 hc2' HR2.out 0 _ (by omega)), hid (HKK.out.setCell _ _ (.inr hg2)).drew⟩, by simp [intOf]; omega⟩
      · obtain ⟨g1, c1, y, rfl, hg1, hc1, hc1', hR1⟩ := (show WW w.heap.size wr u3 1 from HS.out).row
        have q1 := hR1.cell (j := 0) (by omega)
        have fr := hR1.free 0
        have HR1 := hid hR1
        clear hR1 HS
        go_wp2
        go_region_with (fail)
        go_wp2
        exact ⟨⟨2, rfl, by omega, hid (WW.store hg1 hc1 hc1' HR1.out 0 _ (by omega)), hid (HK.out.setCell _ _ (.inr hg1)).drew⟩, by simp [intOf]; omega⟩
      · obtain ⟨g1, c1, y, rfl, hg1, hc1, hc1', hR1⟩ := (show WW w.heap.size wr u3 1 from HS.out).row
        have q1 := hR1.cell (j := 0) (by omega)
        have fr := hR1.free 0
        have HR1 := hid hR1
        clear hR1 HS
        go_wp2
        go_region_with (fail)
        go_wp2
        exact ⟨⟨3, rfl, by omega, hid (WW.store hg1 hc1 hc1' HR1.out 0 _ (by omega)), hid (HK.out.setCell _ _ (.inr hg1)).drew⟩, by simp [intOf]; omega⟩
      · obtain ⟨g1, c1, y, rfl, hg1, hc1, hc1', hR1⟩ := (show WW w.heap.size wr u3 1 from HS.out).row
        have q1 := hR1.cell (j := 0) (by omega)
        have fr := hR1.free 0
        have HR1 := hid hR1
        clear hR1 HS
        go_wp2
        go_region_with (fail)
        go_wp2
        exact ⟨⟨4, rfl, by omega, hid (WW.store hg1 hc1 hc1' HR1.out 0 _ (by omega)), hid (HK.out.setCell _ _ (.inr hg1)).drew⟩, by simp [intOf]; omega⟩
      · obtain ⟨g1, c1, y, rfl, hg1, hc1, hc1', hR1⟩ := (show WW w.heap.size wr u3 1 from HS.out).row
        have HSV : Hid (SV (· = 23) w.heap.size wr (.slice (some ⟨g1, 0, none⟩) 1 c1) 1 (fun j => .int .u64 (y j))) := hid (.inr ⟨g1, c1, 23, rfl, hg1, hc1, hc1', rfl, hR1⟩)
        clear hR1 hc1 hc1' HS
        go_wp2_with (at_builtin; refine wpList_append_sv _ rfl (.tmp 17) (.tmp 18) 24 24 rfl 23 i23 (.int .u64 0) 8 Tryz.underlying24 hi23 hz230 hz231 hz232 rfl (· = 23) rfl w.heap.size 1 1 _ _ (fun j => .int .u64 (y j)) (fun _ => .int .u64 0) rfl (HSV.out.alloc _) rfl (Src.one _ 24 23 23 _ Tryz.underlying24 rfl) (by omega) (by omega) (by simp; omega) ?_)
        intro v1 w1 hv1 hk1 ho1
        have hkk : Kept [] w w1 := (HK.out.alloc (.cells #[.int .u64 0] 23)).trans hk1 (by simp) (fun y hy => .inr (HSV.out.own_ge (by simpa using hy)))
        have hww : WW w.heap.size w1 v1 2 := ww_append hv1
        obtain ⟨g2, c2, y2, rfl, hg2, hc2, hc2', hR2⟩ := hww.row
        have q1 := hR2.cell (j := 1) (by omega)
        have fr := hR2.free 1
        have HR2 := hid hR2
        have HKK := hid hkk
        clear hv1 hk1 ho1 hww hR2 hkk HSV
        go_wp2
        go_region_with (fail)
        go_wp2
        exact ⟨⟨5, rfl, by omega, hid (WW.store hg2 hc2 hc2' HR2.out 1 _ (by omega)), hid (HKK.out.setCell _ _ (.inr hg2)).drew⟩, by simp [intOf]; omega⟩
      · obtain ⟨g1, c1, y, rfl, hg1, hc1, hc1', hR1⟩ := (show WW w.heap.size wr u3 2 from HS.out).row
        have q1 := hR1.cell (j := 1) (by omega)
        have fr := hR1.free 1
        have HR1 := hid hR1
        clear hR1 HS
        go_wp2
        go_region_with (fail)
        go_wp2
        exact ⟨⟨6, rfl, by omega, hid (WW.store hg1 hc1 hc1' HR1.out 1 _ (by omega)), hid (HK.out.setCell _ _ (.inr hg1)).drew⟩, by simp [intOf]; omega⟩
      · obtain ⟨g1, c1, y, rfl, hg1, hc1, hc1', hR1⟩ := (show WW w.heap.size wr u3 2 from HS.out).row
        have q1 := hR1.cell (j := 1) (by omega)
        have fr := hR1.free 1
        have HR1 := hid hR1
        clear hR1 HS
        go_wp2
        go_region_with (fail)
        go_wp2
        exact ⟨⟨7, rfl, by omega, hid (WW.store hg1 hc1 hc1' HR1.out 1 _ (by omega)), hid (HK.out.setCell _ _ (.inr hg1)).drew⟩, by simp [intOf]; omega⟩
      · obtain ⟨g1, c1, y, rfl, hg1, hc1, hc1', hR1⟩ := (show WW w.heap.size wr u3 2 from HS.out).row
        have q1 := hR1.cell (j := 1) (by omega)
        have fr := hR1.free 1
        have HR1 := hid hR1
        clear hR1 HS
        go_wp2
        go_region_with (fail)
        go_wp2
        exact ⟨⟨8, rfl, by omega, hid (WW.store hg1 hc1 hc1' HR1.out 1 _ (by omega)), hid (HK.out.setCell _ _ (.inr hg1)).drew⟩, by simp [intOf]; omega⟩
      · obtain ⟨g1, c1, y, rfl, hg1, hc1, hc1', hR1⟩ := (show WW w.heap.size wr u3 2 from HS.out).row
        have HSV : Hid (SV (· = 23) w.heap.size wr (.slice (some ⟨g1, 0, none⟩) 2 c1) 2 (fun j => .int .u64 (y j))) := hid (.inr ⟨g1, c1, 23, rfl, hg1, hc1, hc1', rfl, hR1⟩)
        clear hR1 hc1 hc1' HS
        go_wp2_with (at_builtin; refine wpList_append_sv _ rfl (.tmp 17) (.tmp 18) 24 24 rfl 23 i23 (.int .u64 0) 8 Tryz.underlying24 hi23 hz230 hz231 hz232 rfl (· = 23) rfl w.heap.size 2 1 _ _ (fun j => .int .u64 (y j)) (fun _ => .int .u64 0) rfl (HSV.out.alloc _) rfl (Src.one _ 24 23 23 _ Tryz.underlying24 rfl) (by omega) (by omega) (by simp; omega) ?_)
        intro v1 w1 hv1 hk1 ho1
        have hkk : Kept [] w w1 := (HK.out.alloc (.cells #[.int .u64 0] 23)).trans hk1 (by simp) (fun y hy => .inr (HSV.out.own_ge (by simpa using hy)))
        have hww : WW w.heap.size w1 v1 3 := ww_append hv1
        obtain ⟨g2, c2, y2, rfl, hg2, hc2, hc2', hR2⟩ := hww.row
        have q1 := hR2.cell (j := 2) (by omega)
        have fr := hR2.free 2
        have HR2 := hid hR2
        have HKK := hid hkk
        clear hv1 hk1 ho1 hww hR2 hkk HSV
        go_wp2
        go_region_with (fail)
        go_wp2
        exact ⟨⟨9, rfl, by omega, hid (WW.store hg2 hc2 hc2' HR2.out 2 _ (by omega)), hid (HKK.out.setCell _ _ (.inr hg2)).drew⟩, by simp [intOf]; omega⟩
      · obtain ⟨g1, c1, y, rfl, hg1, hc1, hc1', hR1⟩ := (show WW w.heap.size wr u3 3 from HS.out).row
        have q1 := hR1.cell (j := 2) (by omega)
        have fr := hR1.free 2
        have HR1 := hid hR1
        clear hR1 HS
        go_wp2
        go_region_with (fail)
        go_wp2
        exact ⟨⟨10, rfl, by omega, hid (WW.store hg1 hc1 hc1' HR1.out 2 _ (by omega)), hid (HK.out.setCell _ _ (.inr hg1)).drew⟩, by simp [intOf]; omega⟩
      · obtain ⟨g1, c1, y, rfl, hg1, hc1, hc1', hR1⟩ := (show WW w.heap.size wr u3 3 from HS.out).row
        have q1 := hR1.cell (j := 2) (by omega)
        have fr := hR1.free 2
        have HR1 := hid hR1
        clear hR1 HS
        go_wp2
        go_region_with (fail)
        go_wp2
        exact ⟨⟨11, rfl, by omega, hid (WW.store hg1 hc1 hc1' HR1.out 2 _ (by omega)), hid (HK.out.setCell _ _ (.inr hg1)).drew⟩, by simp [intOf]; omega⟩
      · obtain ⟨g1, c1, y, rfl, hg1, hc1, hc1', hR1⟩ := (show WW w.heap.size wr u3 3 from HS.out).row
        have q1 := hR1.cell (j := 2) (by omega)
        have fr := hR1.free 2
        have HR1 := hid hR1
        clear hR1 HS
        go_wp2
        go_region_with (fail)
        go_wp2
        exact ⟨⟨12, rfl, by omega, hid (WW.store hg1 hc1 hc1' HR1.out 2 _ (by omega)), hid (HK.out.setCell _ _ (.inr hg1)).drew⟩, by simp [intOf]; omega⟩
    · obtain rfl : k = K := by omega
      go_wp2
      go_ret
      exact ⟨_, rfl, HS.out, HK.out⟩
end

end Go.Proofs.YtofmickjbpkgbaaGreatDoor
