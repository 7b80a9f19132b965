import Derived.Test.YtofmickjbpkgbaaGreatDoorFloat
namespace Go.Proofs.YtofmickjbpkgbaaGreatDoor
open Go.RowKit
set_option maxRecDepth 100000

theorem trim_any (T : TypeId → Prop) (B n : Nat) (g c : Nat) (x : Nat → Nat) (w : World) (hn : n ≤ 900000) (hc : n ≤ c) (hcc : c ≤ 9223372036854775807) (t : TypeId) (hR : Row w g t c (fun j => .int .i64 (x j : Nat)) n) :
    Calls Tryz.prog 15 #[.slice (some ⟨g, 0, none⟩) n c] w fun e w' => ∃ m, NormAt x n m ∧ e = .returned (.slice (some ⟨g, 0, none⟩) m c) ∧ w' = w := by
  go_enter Tryz.func15, Tryz.ntmps15
  go_wp2
  go_loop [0] (fun v => ∃ i : Nat, i ≤ n ∧ v = .slice (some ⟨g, 0, none⟩) i c ∧ Hid (∀ j, i ≤ j → j < n → x j = 0)) (fun v => match v with | .slice _ l _ => l | _ => 0)
  case atStart => exact ⟨n, Nat.le_refl _, rfl, fun j _ _ => by omega⟩
  case round =>
    obtain ⟨i, hi, rfl, HZ⟩ := hrel
    by_cases h0 : 0 < i
    · have hci := hR.cell (j := i - 1) (by omega)
      go_wp2
      · have h : ((x (i - 1) : Int) == 0) = true := by assumption
        refine ⟨⟨i - 1, by omega, rfl, fun j hj hl => ?_⟩, by show i - 1 < i; omega⟩
        by_cases e : j = i - 1
        · subst e; simpa using h
        · exact HZ.out j (by omega) hl
      · have h : ((x (i - 1) : Int) == 0) = false := by assumption
        go_ret
        exact ⟨i, ⟨hi, Or.inr (by simpa using h), HZ.out⟩, rfl, rfl⟩
    · obtain rfl : i = 0 := by omega
      go_wp2
      go_ret
      exact ⟨0, ⟨hi, Or.inl rfl, HZ.out⟩, rfl, rfl⟩

theorem SV.own_ge {T : TypeId → Prop} {B n k : Nat} {w : World} {v : Value} {f : Nat → Value} (h : SV T B w v n f) (hk : v.ownBlock = some k) : B ≤ k := by
  rcases h with ⟨rfl, _⟩ | ⟨g, c, t, rfl, h1, _, _, _, h6⟩
  · simp [Value.ownBlock] at hk
  · simp [Value.ownBlock] at hk; subst hk; exact h1

/-- The limbs of the words x 0, x 1, ..: four of 16 bits to a word. -/
def limb (x : Nat → Nat) (j : Nat) : Nat := x (j / 4) / 65536 ^ (j % 4) % 65536

theorem limb_lt (x : Nat → Nat) (j : Nat) : limb x j < 65536 := Nat.mod_lt _ (by omega)

theorem bits_and_mask (V : Nat) (hV : V < 18446744073709551616) : bits .and .u64 (V : Int) 65535 = ((V % 65536 : Nat) : Int) := by
  have := bits_and_u64 V 65535 hV (by omega)
  rw [show (65535 : Nat) = 2 ^ 16 - 1 from rfl, Nat.and_two_pow_sub_one_eq_mod] at this
  exact this

set_option maxHeartbeats 4000000 in
theorem of_any (n c : Nat) (ao : Option Addr) (x : Nat → Nat) (w : World) (hn : n ≤ 1000) (hc : n ≤ c) (hcc : c ≤ 9223372036854775807) (hx : ∀ j, j < n → x j < 18446744073709551616)
    (hcell : n = 0 ∨ ∃ g o, ao = some ⟨g, o, none⟩ ∧ g < w.heap.size ∧ ∀ j, j < n → w.cell? ⟨g, o + j, none⟩ = some (.int .u64 (x j : Nat))) :
    Calls Tryz.prog 6 #[.slice ao n c] w fun e w' => ∃ g m c', e = .returned (.slice (some ⟨g, 0, none⟩) m c') ∧ NormAt (limb x) (4 * n) m ∧ w.heap.size ≤ g ∧ m ≤ c' ∧ c' ≤ 9223372036854775807 ∧
      Row w' g 3 c' (fun j => .int .i64 (limb x j : Nat)) (4 * n) ∧ Kept [] w w' := by
  obtain ⟨i3, hi3, hz30, hz31, hz32⟩ := info_parts Tryz.info3
  have HC := hid hcell
  have HX := hid hx
  clear hcell hx
  go_enter Tryz.func6, Tryz.ntmps6
  go_wp2
  have hnew := heap_alloc_new w (.cells #[] 3)
  go_loopw [3, 10] (fun v i wr => ∃ k : Nat, i = .int .i64 k ∧ k ≤ n ∧ Hid (SV (· = 3) w.heap.size wr v (4 * k) (fun j => .int .i64 (limb x j : Nat))) ∧ Hid (v ≠ .slice none 0 0) ∧ Kept [] w wr) (fun _ i _ => n - (intOf i).toNat)
  case atStart =>
    refine ⟨0, rfl, Nat.zero_le _, .inr ⟨w.heap.size, 0, 3, rfl, Nat.le_refl _, Nat.le_refl _, by omega, rfl, _, hnew, rfl, fun j hj => by omega⟩, hid (fun h => by cases h), (Kept.refl _ _).alloc _⟩
  case round =>
    obtain ⟨k, rfl, hk, HS, HNE, hkp⟩ := hrel
    by_cases hkn : k < n
    · obtain ⟨g, o, hao, hg, hcs⟩ : ∃ g o, ao = some ⟨g, o, none⟩ ∧ g < w.heap.size ∧ ∀ j, j < n → w.cell? ⟨g, o + j, none⟩ = some (.int .u64 (x j : Nat)) := HC.out.resolve_left (by omega)
      subst hao
      have hck := hkp.cellOf (hcs k hkn) (by simp)
      have hxk := HX.out k hkn
      have hlk : ∀ j, j < 4 → limb x (4 * k + j) = x k / 65536 ^ j % 65536 := fun j hj => by
        unfold limb
        rw [show (4 * k + j) / 4 = k by omega, show (4 * k + j) % 4 = j by omega]
      have HLK := hid hlk
      clear hlk
      obtain ⟨X, hX⟩ : ∃ X, X = x k := ⟨_, rfl⟩
      rw [← hX] at hck hxk
      have HXX := hid hX
      clear hX hcs
      go_wp2
      obtain ⟨wo, rfl⟩ : ∃ wo : World, wo = wr := ⟨_, rfl⟩
      go_loopw [3, 6] (fun v i wr => ∃ j : Nat, i = .int .i64 j ∧ j ≤ 4 ∧ Hid (SV (· = 3) w.heap.size wr v (4 * k + j) (fun j => .int .i64 (limb x j : Nat))) ∧ Hid (v ≠ .slice none 0 0) ∧ Kept [] w wr) (fun _ i _ => 4 - (intOf i).toNat)
      case atStart => exact ⟨0, rfl, by omega, HS, HNE, hkp⟩
      case round =>
        obtain ⟨j, rfl, hj, HS2, HNE2, hkp2⟩ := hrel
        by_cases hj4 : j < 4
        · have hlj := HLK.out j hj4
          have hmk := bits_and_mask (x k / 65536 ^ j) (Nat.lt_of_le_of_lt (Nat.div_le_self _ _) (by rw [← HXX.out]; exact hxk))
          rw [← hlj, ← HXX.out] at hmk
          have hL := limb_lt x (4 * k + j)
          have hzz : (fun j => Value.int .i64 (limb x j : Nat)) (4 * k + j) = .int .i64 (limb x (4 * k + j) : Nat) := rfl
          have HLZ : Hid (∀ v' : Value, ∀ w' : World, ∀ L : Nat, L = limb x (4 * k + j) → SV (· = 3) w.heap.size w' v' (4 * k + j + 1) (appF (4 * k + j) (fun j => .int .i64 (limb x j : Nat)) (fun _ => .int .i64 (L : Nat))) → SV (· = 3) w.heap.size w' v' (4 * k + (j + 1)) (fun j => .int .i64 (limb x j : Nat))) := by
            intro v' w' L e h
            subst e
            refine h.congr fun i hi => ?_
            unfold appF
            split
            · rfl
            · have : i = 4 * k + j := by omega
              rw [this]
          have hsz := hkp2.size
          clear hzz hlj
          obtain ⟨L, hLe⟩ : ∃ L, L = limb x (4 * k + j) := ⟨_, rfl⟩
          rw [← hLe] at hmk hL
          have HLE := hid hLe
          have HN2 : Hid (∀ v' : Value, ∀ w' : World, SV (· = 3) w.heap.size w' v' (4 * k + (j + 1)) (fun j => .int .i64 (limb x j : Nat)) → v' ≠ .slice none 0 0) := by
            intro v' w' h e
            rcases h with ⟨_, h⟩ | ⟨_, _, _, h, _⟩
            · omega
            · rw [e] at h; cases h
          clear hLe
          rcases (by omega : j = 0 ∨ j = 1 ∨ j = 2 ∨ j = 3) with rfl | rfl | rfl | rfl
          all_goals simp at hmk
          all_goals
            go_wp2_with (at_builtin; refine wpList_append_sv _ rfl (.tmp 18) (.tmp 25) 27 27 rfl 3 i3 (.int .i64 0) 8 Tryz.underlying27 hi3 hz30 hz31 hz32 rfl (· = 3) rfl w.heap.size _ 1 _ _ (fun j => .int .i64 (limb x j : Nat)) (fun _ => .int .i64 (L : Nat)) rfl (HS2.out.alloc _) rfl (Src.one _ 27 3 3 _ Tryz.underlying27 rfl) (by omega) (by omega) (by simp; omega) ?_)
            intro v1 w1 hv1 hk1 ho1
            have hkk : Kept [] w w1 := (hkp2.alloc (.cells #[.int .i64 (L : Nat)] 3)).trans hk1 (by simp) (fun y hy => .inr (HS2.out.own_ge (by simpa using hy)))
            have HV1 := hid (HLZ.out v1 w1 L HLE.out hv1)
            clear hv1 hk1 ho1
            go_wp2
            refine ⟨?_, by simp [intOf]⟩
            first | exact ⟨0 + 1, rfl, by omega, HV1.out, HN2.out _ _ HV1.out, hkk⟩ | exact ⟨1 + 1, rfl, by omega, HV1.out, HN2.out _ _ HV1.out, hkk⟩ | exact ⟨2 + 1, rfl, by omega, HV1.out, HN2.out _ _ HV1.out, hkk⟩ | exact ⟨3 + 1, rfl, by omega, HV1.out, HN2.out _ _ HV1.out, hkk⟩
        · obtain rfl : j = 4 := by omega
          go_wp2
          go_roundw
          case rel => exact ⟨k + 1, by go_num, by omega, by rw [show 4 * (k + 1) = 4 * k + 4 by omega]; exact HS2, HNE2, hkp2⟩
          case measure => simp [intOf]; omega
    · obtain rfl : k = n := by omega
      rcases HS.out with ⟨h, _⟩ | ⟨g, c', t, rfl, h1, h2, h3, rfl, h5⟩
      · exact absurd h HNE.out
      · go_wp2_with fail
        refine (trim_any (· = 3) 0 (4 * k) g c' (limb x) wr (by omega) h2 h3 3 h5).mono ?_
        rintro e w2 ⟨m, hm, rfl, rfl⟩
        have HM := hid hm
        have H5 := hid h5
        have hm1 := hm.1
        clear hm h5
        go_wp2
        go_ret
        exact ⟨g, m, c', rfl, HM.out, h1, by omega, h3, H5.out, hkp⟩
end Go.Proofs.YtofmickjbpkgbaaGreatDoor
