import Derived.Test.YtofmickjbpkgbaaGreatDoorOf
namespace Go.Proofs.YtofmickjbpkgbaaGreatDoor
open Go.RowKit
set_option maxRecDepth 100000

theorem row_of_sv {T : TypeId → Prop} {B : Nat} {w : World} {v : Value} {f : Nat → Value} {n : Nat} (h : SV T B w v n f) (hn : 0 < n) :
    ∃ g c t, v = .slice (some ⟨g, 0, none⟩) n c ∧ B ≤ g ∧ n ≤ c ∧ c ≤ 9223372036854775807 ∧ T t ∧ Row w g t c f n := by
  rcases h with ⟨_, h⟩ | h
  · omega
  · exact h

theorem or_limb (V k : Nat) (hk : k < 4) (hV : V < 18446744073709551616) :
    bits .or .u64 ((V % 65536 ^ k : Nat) : Int) ((V / 65536 ^ k % 65536 * 65536 ^ k : Nat) : Int) = ((V % 65536 ^ (k + 1) : Nat) : Int) := by
  have e : (65536 : Nat) ^ k = 2 ^ (16 * k) := by rw [show (65536 : Nat) = 2 ^ 16 from rfl, ← Nat.pow_mul]
  have h1 : V % 65536 ^ k < 2 ^ (16 * k) := by rw [← e]; exact Nat.mod_lt _ (Nat.pow_pos (by omega))
  have h2 : V % 65536 ^ (k + 1) = V % 65536 ^ k + 65536 ^ k * (V / 65536 ^ k % 65536) := Nat.mod_pow_succ
  have h3 := add_or (16 * k) (V / 65536 ^ k % 65536) (V % 65536 ^ k) h1
  have h4 : V % 65536 ^ (k + 1) < 18446744073709551616 := Nat.lt_of_le_of_lt (Nat.mod_le _ _) hV
  rw [← e] at h3
  rw [Nat.mul_comm (V / 65536 ^ k % 65536)]
  rw [(bits_or_u64 _ _ (by omega) (by omega)).1, Nat.or_comm, h3, h2, Nat.add_comm]

/-- What spec.Words leaves of the limbs of one word. -/
def WordsPost (V K : Nat) (w : World) (e : Ending) (w' : World) : Prop := ∃ v, e = .returned v ∧ v ≠ .slice none 0 0 ∧ SV (· = 23) w.heap.size w' v (if K = 0 then 0 else 1) (fun _ => .int .u64 (V % 65536 ^ K : Nat)) ∧ Kept [] w w'

set_option maxHeartbeats 4000000 in
theorem words_one (K g c t V : Nat) (x : Nat → Nat) (w : World) (hK : K ≤ 4) (hc : K ≤ c) (hcc : c ≤ 9223372036854775807) (hV : V < 18446744073709551616) (hx : x 0 = V) (hR : Row w g t c (fun j => .int .i64 (limb x j : Nat)) K) :
    Calls Tryz.prog 5 #[.slice (some ⟨g, 0, none⟩) K c] w (WordsPost V K w) := by
  obtain ⟨i23, hi23, hz230, hz231, hz232⟩ := info_parts Tryz.info23
  have hnew := heap_alloc_new w (.cells #[] 23)
  have hlim : ∀ j, j < 4 → limb x j = V / 65536 ^ j % 65536 := fun j hj => by
    unfold limb
    rw [show j / 4 = 0 by omega, show j % 4 = j by omega, hx]
  have HLIM := hid hlim
  have HR := hid hR
  have hgl := hR.lt
  clear hlim hR hx
  go_enter Tryz.func5, Tryz.ntmps5
  go_wp2
  go_loopw [3, 9] (fun v i wr => ∃ k : Nat, i = .int .i64 k ∧ k ≤ K ∧ Hid (SV (· = 23) w.heap.size wr v (if k = 0 then 0 else 1) (fun _ => .int .u64 (V % 65536 ^ k : Nat))) ∧ Hid (v ≠ .slice none 0 0) ∧ Kept [] w wr) (fun _ i _ => K - (intOf i).toNat)
  case atStart =>
    refine ⟨0, rfl, Nat.zero_le _, .inr ⟨w.heap.size, 0, 23, rfl, Nat.le_refl _, Nat.le_refl _, by omega, rfl, _, hnew, rfl, fun j hj => absurd hj (Nat.not_lt_zero j)⟩, hid (fun h => by cases h), (Kept.refl _ _).alloc _⟩
  case round =>
    obtain ⟨k, rfl, hk, HS, HNE, hkp⟩ := hrel
    by_cases hkn : k < K
    · have hck := hkp.cellOf (HR.out.cell hkn) (by simp)
      have hlk := HLIM.out k (by omega)
      have hor := or_limb V k (by omega) hV
      rw [← hlk] at hor
      have hL := limb_lt x k
      obtain ⟨L, hLe⟩ : ∃ L, L = limb x k := ⟨_, rfl⟩
      rw [← hLe] at hor hL hck
      clear hLe hlk
      have hA : V % 65536 ^ k < 18446744073709551616 := Nat.lt_of_le_of_lt (Nat.mod_le _ _) hV
      obtain ⟨B, hBe⟩ : ∃ B, B = V % 65536 ^ (k + 1) := ⟨_, rfl⟩
      rw [← hBe] at hor
      have HBE := hid hBe
      clear hBe
      have wr0 : IntKind.i64.wrap 0 = 0 := by decide
      have wr1 : IntKind.i64.wrap 16 = 16 := by decide
      have wr2 : IntKind.i64.wrap 32 = 32 := by decide
      have wr3 : IntKind.i64.wrap 48 = 48 := by decide
      have wrL : IntKind.u64.wrap (L : Int) = (L : Int) := u64_id rfl (by omega)
      have wrM1 : IntKind.u64.wrap ((L : Int) * 65536) = (L : Int) * 65536 := by rw [u64_id (n := L * 65536) (by omega) (by omega)]; omega
      have wrM2 : IntKind.u64.wrap ((L : Int) * 4294967296) = (L : Int) * 4294967296 := by rw [u64_id (n := L * 4294967296) (by omega) (by omega)]; omega
      have wrM3 : IntKind.u64.wrap ((L : Int) * 281474976710656) = (L : Int) * 281474976710656 := by rw [u64_id (n := L * 281474976710656) (by omega) (by omega)]; omega
      have hsz := hkp.size
      rcases (by omega : k = 0 ∨ 1 ≤ k) with rfl | hk1
      · simp at hor
        have hS := HS.out
        rw [if_pos rfl] at hS
        go_wp2_with (at_builtin; refine wpList_append_sv _ rfl (.tmp 17) (.tmp 18) 24 24 rfl 23 i23 (.int .u64 0) 8 Tryz.underlying24 hi23 hz230 hz231 hz232 rfl (· = 23) rfl w.heap.size 0 1 _ _ _ (fun _ => .int .u64 0) rfl (hS.alloc _) rfl (Src.one _ 24 23 23 _ Tryz.underlying24 rfl) (by omega) (by omega) (by simp; omega) ?_)
        intro v1 w1 hv1 hk1 ho1
        have hkk : Kept [] w w1 := (hkp.alloc (.cells #[.int .u64 0] 23)).trans hk1 (by simp) (fun y hy => .inr (hS.own_ge (by simpa using hy)))
        obtain ⟨g1, c1, t1, rfl, hg1, hc1, hc1', rfl, hR1⟩ := row_of_sv hv1 (by omega)
        have hcell1 : w1.cell? ⟨g1, 0, none⟩ = some (.int .u64 0) := hR1.cell (j := 0) (by omega)
        have hfr1 := hR1.free 0
        have HR1 := hid hR1
        have hck1 := hkk.cellOf (HR.out.cell hkn) (by simp)
        clear hS hR1 hv1 hk1 ho1
        go_wp2
        go_region_with (fail)
        go_wp2
        refine ⟨⟨0 + 1, rfl, by omega, ?_, hid (fun h => by cases h), (hkk.setCell _ _ (.inr hg1)).drew⟩, by simp [intOf]; omega⟩
        have hrow := HR1.out.store 0 (.int .u64 B) (f' := fun _ => .int .u64 (V % 65536 ^ (0 + 1) : Nat)) (m := 1) (by omega) (fun i hi => .inr (by omega)) (fun _ => by rw [HBE.out]) (fun i hi h0 => by omega)
        exact .inr ⟨g1, c1, 23, rfl, hg1, hc1, hc1', rfl, hrow⟩
      · obtain ⟨A, hAe⟩ : ∃ A, A = V % 65536 ^ k := ⟨_, rfl⟩
        rw [← hAe] at hor hA
        have hS := HS.out
        rw [if_neg (by omega), ← hAe] at hS
        obtain ⟨g1, c1, t1, rfl, hg1, hc1, hc1', rfl, hR1⟩ := row_of_sv hS (by omega)
        have hcell1 := hR1.cell (j := 0) (by omega)
        have hfr1 := hR1.free 0
        have HR1 := hid hR1
        clear hS hR1 hAe
        rcases (by omega : k = 1 ∨ k = 2 ∨ k = 3) with rfl | rfl | rfl
        all_goals simp at hor
        all_goals
          go_wp2
          go_region_with (fail)
          go_wp2
          refine ⟨?_, by simp [intOf]; omega⟩
          first
            | (refine ⟨1 + 1, rfl, by omega, ?_, hid (fun h => by cases h), (hkp.setCell _ _ (.inr hg1)).drew⟩
               have hrow := HR1.out.store 0 (.int .u64 B) (f' := fun _ => .int .u64 (V % 65536 ^ (1 + 1) : Nat)) (m := 1) (by omega) (fun i hi => .inr (by omega)) (fun _ => by rw [HBE.out]) (fun i hi h0 => by omega)
               exact .inr ⟨g1, c1, 23, rfl, hg1, hc1, hc1', rfl, hrow⟩)
            | (refine ⟨2 + 1, rfl, by omega, ?_, hid (fun h => by cases h), (hkp.setCell _ _ (.inr hg1)).drew⟩
               have hrow := HR1.out.store 0 (.int .u64 B) (f' := fun _ => .int .u64 (V % 65536 ^ (2 + 1) : Nat)) (m := 1) (by omega) (fun i hi => .inr (by omega)) (fun _ => by rw [HBE.out]) (fun i hi h0 => by omega)
               exact .inr ⟨g1, c1, 23, rfl, hg1, hc1, hc1', rfl, hrow⟩)
            | (refine ⟨3 + 1, rfl, by omega, ?_, hid (fun h => by cases h), (hkp.setCell _ _ (.inr hg1)).drew⟩
               have hrow := HR1.out.store 0 (.int .u64 B) (f' := fun _ => .int .u64 (V % 65536 ^ (3 + 1) : Nat)) (m := 1) (by omega) (fun i hi => .inr (by omega)) (fun _ => by rw [HBE.out]) (fun i hi h0 => by omega)
               exact .inr ⟨g1, c1, 23, rfl, hg1, hc1, hc1', rfl, hrow⟩)
    · obtain rfl : k = K := by omega
      have hne := HNE
      go_wp2
      go_ret
      exact ⟨_, rfl, HNE.out, HS.out, hkp⟩
end Go.Proofs.YtofmickjbpkgbaaGreatDoor
