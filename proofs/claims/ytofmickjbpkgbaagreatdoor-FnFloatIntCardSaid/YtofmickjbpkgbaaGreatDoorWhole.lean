import Derived.Test.YtofmickjbpkgbaaGreatDoorInt2
import Derived.Test.YtofmickjbpkgbaaGreatDoorApp
namespace Go.Proofs.YtofmickjbpkgbaaGreatDoor
open Go.RowKit
set_option maxRecDepth 100000

theorem whole_walk (g o n c : Nat) (x : Nat → Nat) (w : World) (h0 : 0 < n) (hn : n ≤ 900000) (hc : n ≤ c) (hg : g < w.heap.size)
    (hcell : ∀ j, j < n → w.cell? ⟨g, o + j, none⟩ = some (.int .u64 (x j : Nat))) :
    Calls Tryz.prog 26 #[.slice (some ⟨g, o, none⟩) n c] w fun e w' => ∃ b v' m, e = .returned (.pointer (some ⟨b, 0, none⟩)) ∧ NormAt x n m ∧ w.heap.size ≤ b ∧
      w'.heap[b]? = some (.cells #[.bool false, v', .bool false] 67 (0, 0)) ∧ NatV w.heap.size w' v' m x ∧ Kept [] w w' := by
  obtain ⟨i0, hi, hz0, hz1, hz2⟩ := info_parts Tryz.info88
  go_enter Tryz.func26, Tryz.ntmps26
  go_wp2
  go_loopw [3, 8] (fun l i wr => ∃ k : Nat, k ≤ n ∧ i = .int .i64 k ∧ SV (· = 88) w.heap.size wr l k (fun j => .int .u64 (x j : Nat)) ∧ Kept [] w wr) (fun _ i _ => n - (intOf i).toNat)
  case atStart => exact ⟨0, Nat.zero_le _, rfl, SV.nil _ _ _ _, Kept.refl _ _⟩
  case round =>
    obtain ⟨k, hk, rfl, hsv, hkp⟩ := hrel
    by_cases hlt : k < n
    · have hck := (hkp.cell (p := ⟨g, o + k, none⟩) hg (by simp)).trans (hcell k hlt)
      have hA := hkp.alloc (.cells #[.int .u64 (x k : Nat)] 88)
      have hB := hkp.size
      go_wp2_with (at_builtin; refine wpList_append_sv _ rfl (.tmp 12) (.tmp 14) 62 62 rfl 88 i0 (.int .u64 0) 8 Tryz.underlying62 hi hz0 hz1 hz2 rfl (· = 88) rfl w.heap.size k 1 _ _ (fun j => .int .u64 (x j : Nat)) (fun _ => .int .u64 (x k : Nat)) rfl (hsv.alloc _) rfl (Src.one _ 62 88 88 _ Tryz.underlying62 rfl) (by omega) (by omega) (by simp; omega) ?_)
      intro v' w1 hsv' hk1 hown
      have hkw := hA.trans hk1 (ds := []) (by simp) (by
        intro y hy
        right
        rcases hsv with ⟨rfl, _⟩ | ⟨g', c', t', rfl, h1, _⟩
        · simp [Value.ownBlock] at hy
        · simp [Value.ownBlock] at hy; omega)
      have hsv2 := hsv'.congr (f' := fun j => .int .u64 (x j : Nat)) (fun j hj => by
        unfold appF
        split
        · rfl
        · rw [show j = k by omega])
      clear hsv hsv' hk1 hown hck hA hB
      go_wp2
      go_roundw
      case rel => exact ⟨k + 1, by omega, by go_num, hsv2, hkw⟩
      case measure => simp [intOf]; omega
    · obtain rfl : k = n := by omega
      have HN := hid ((hsv.nat.alloc (.cells #[.bool false, .slice none 0 0, .bool false] 67)).alloc (.cells #[.bool false, .slice none 0 0] 65))
      have HA : Hid (((wr.alloc (.cells #[.bool false, .slice none 0 0, .bool false] 67)).alloc (.cells #[.bool false, .slice none 0 0] 65)).heap[wr.heap.size]? = some (.cells #[.bool false, .slice none 0 0, .bool false] 67 (0, 0))) := heap_alloc_old' (heap_alloc_new wr _) _
      have HB : Hid (((wr.alloc (.cells #[.bool false, .slice none 0 0, .bool false] 67)).alloc (.cells #[.bool false, .slice none 0 0] 65)).heap[wr.heap.size + 1]? = some (.cells #[.bool false, .slice none 0 0] 65 (0, 0))) := by
        have := heap_alloc_new (wr.alloc (.cells #[.bool false, .slice none 0 0, .bool false] 67)) (.cells #[.bool false, .slice none 0 0] 65)
        rwa [World.size_alloc] at this
      have HK := hid ((hkp.alloc (.cells #[.bool false, .slice none 0 0, .bool false] 67)).alloc (.cells #[.bool false, .slice none 0 0] 65))
      have hsz := hkp.size
      clear hcell hsv hkp
      go_wp2_with fail
      refine (setBits_any (wr.heap.size + 1) 0 k false (.slice none 0 0) u3 _ 65 x _ hn HB.out rfl rfl (HN.out.mono (by omega)) (by decide)).mono ?_
      rintro e w1 ⟨rfl, m, v1, hm, hv1, hk1, hb1⟩
      have HN1 := hid hv1
      have HB1 := hid hb1
      have HA1 := hid (hk1.heap HA.out (by simp))
      have HK1 := hid (HK.out.trans hk1 (ds := []) (by simp) (by intro y hy; right; simp at hy; omega))
      have hs1 := hk1.size
      simp only [World.size_alloc] at hs1
      have hml := hm.1
      have HM := hid hm
      clear hm hv1 hb1 hk1
      go_wp2_with fail
      refine (setMath_any wr.heap.size 0 (wr.heap.size + 1) 0 m false false false v1 _ _ 67 65 x w1 (by omega) (by omega) HA1.out rfl rfl rfl HB1.out (by simp) (by simp) HN1.out (by decide)).mono ?_
      rintro e w2 ⟨rfl, v2, hv2, hk2, hb2⟩
      have HN2 := hid hv2
      have HB2 := hid hb2
      have HK2 := hid (HK1.out.trans hk2 (ds := []) (by simp) (by intro y hy; right; simp at hy; omega))
      clear hv2 hb2 hk2
      go_wp2
      go_ret
      exact ⟨wr.heap.size, v2, m, rfl, HM.out, hsz, by simpa using HB2.out, HN2.out.mono (by omega), HK2.out⟩

theorem whole_zero (ao : Option Addr) (c : Nat) (x : Nat → Nat) (w : World) (hc : c ≤ 9223372036854775807) :
    Calls Tryz.prog 26 #[.slice ao 0 c] w fun e w' => ∃ b v' m, e = .returned (.pointer (some ⟨b, 0, none⟩)) ∧ NormAt x 0 m ∧ w.heap.size ≤ b ∧
      w'.heap[b]? = some (.cells #[.bool false, v', .bool false] 67 (0, 0)) ∧ NatV w.heap.size w' v' m x ∧ Kept [] w w' := by
  go_enter Tryz.func26, Tryz.ntmps26
  go_wp2
  refine wp_loop_rounds 1 ?_; rw [rounds_succ]
  have HN := hid (((SV.nil (· = 88) w.heap.size w (fun j => .int .u64 (x j : Nat))).nat.alloc (.cells #[.bool false, .slice none 0 0, .bool false] 67)).alloc (.cells #[.bool false, .slice none 0 0] 65))
  have HA : Hid (((w.alloc (.cells #[.bool false, .slice none 0 0, .bool false] 67)).alloc (.cells #[.bool false, .slice none 0 0] 65)).heap[w.heap.size]? = some (.cells #[.bool false, .slice none 0 0, .bool false] 67 (0, 0))) := heap_alloc_old' (heap_alloc_new w _) _
  have HB : Hid (((w.alloc (.cells #[.bool false, .slice none 0 0, .bool false] 67)).alloc (.cells #[.bool false, .slice none 0 0] 65)).heap[w.heap.size + 1]? = some (.cells #[.bool false, .slice none 0 0] 65 (0, 0))) := by
    have := heap_alloc_new (w.alloc (.cells #[.bool false, .slice none 0 0, .bool false] 67)) (.cells #[.bool false, .slice none 0 0] 65)
    rwa [World.size_alloc] at this
  have HK := hid (((Kept.refl [] w).alloc (.cells #[.bool false, .slice none 0 0, .bool false] 67)).alloc (.cells #[.bool false, .slice none 0 0] 65))
  have hsz := (Kept.refl [] w).size
  go_wp2_with fail
  refine (setBits_any (w.heap.size + 1) 0 0 false (.slice none 0 0) (.slice none 0 0) _ 65 x _ (by omega) HB.out rfl rfl (HN.out.mono (by omega)) (by decide)).mono ?_
  rintro e w1 ⟨rfl, m, v1, hm, hv1, hk1, hb1⟩
  have HN1 := hid hv1
  have HB1 := hid hb1
  have HA1 := hid (hk1.heap HA.out (by simp))
  have HK1 := hid (HK.out.trans hk1 (ds := []) (by simp) (by intro y hy; right; simp at hy; omega))
  have hs1 := hk1.size
  simp only [World.size_alloc] at hs1
  have hml := hm.1
  have HM := hid hm
  clear hm hv1 hb1 hk1
  go_wp2_with fail
  refine (setMath_any w.heap.size 0 (w.heap.size + 1) 0 m false false false v1 _ _ 67 65 x w1 (by omega) (by omega) HA1.out rfl rfl rfl HB1.out (by simp) (by simp) HN1.out (by decide)).mono ?_
  rintro e w2 ⟨rfl, v2, hv2, hk2, hb2⟩
  have HN2 := hid hv2
  have HB2 := hid hb2
  have HK2 := hid (HK1.out.trans hk2 (ds := []) (by simp) (by intro y hy; right; simp at hy; omega))
  clear hv2 hb2 hk2
  go_wp2
  go_ret
  exact ⟨w.heap.size, v2, m, rfl, HM.out, hsz, by simpa using HB2.out, HN2.out.mono (by omega), HK2.out⟩

/-- impl.whole: the words in a new BigInt, without the noughts at their end. -/
theorem whole_any (ao : Option Addr) (n c : Nat) (x : Nat → Nat) (w : World) (hn : n ≤ 900000) (hc : n ≤ c) (hcc : c ≤ 9223372036854775807)
    (hcell : n = 0 ∨ ∃ g o, ao = some ⟨g, o, none⟩ ∧ g < w.heap.size ∧ ∀ j, j < n → w.cell? ⟨g, o + j, none⟩ = some (.int .u64 (x j : Nat))) :
    Calls Tryz.prog 26 #[.slice ao n c] w fun e w' => ∃ b v' m, e = .returned (.pointer (some ⟨b, 0, none⟩)) ∧ NormAt x n m ∧ w.heap.size ≤ b ∧
      w'.heap[b]? = some (.cells #[.bool false, v', .bool false] 67 (0, 0)) ∧ NatV w.heap.size w' v' m x ∧ Kept [] w w' := by
  by_cases h0 : n = 0
  · subst h0
    exact whole_zero ao c x w hcc
  · rcases hcell with h | ⟨g, o, rfl, hg, h⟩
    · exact absurd h h0
    · exact whole_walk g o n c x w (by omega) hn hc hg h

end Go.Proofs.YtofmickjbpkgbaaGreatDoor
