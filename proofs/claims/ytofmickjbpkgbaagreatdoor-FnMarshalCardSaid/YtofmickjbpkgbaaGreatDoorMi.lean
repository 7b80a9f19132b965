import Derived.Test.YtofmickjbpkgbaaGreatDoorMd
import Derived.LaidEqlPtr
import Derived.Lib.SliceRun
set_option maxRecDepth 100000
namespace Go.Proofs.YtofmickjbpkgbaaGreatDoor
section
open Go.RowKit

theorem Tryz.size88' : (Tryz.prog.info? 88).map (·.size) = some 1 := by kernel_rfl

theorem eql_word_same (a : Addr) (w : World) : (binOp .eql 338 (.pointer (some a)) (.pointer (some a))).run Tryz.prog w = .ok (.bool true) w := by
  obtain ⟨j, h3, _⟩ := info_of_size Tryz.size88'
  exact run_eql_ptr_same w a Tryz.underlying338 h3

theorem eql_word_other {a b : Addr} {ca cb : Array Value} {ta tb : TypeId} (w : World) (hne : a ≠ b) (ha : w.heap[a.block]? = some (.cells ca ta (0, 0))) (hb : w.heap[b.block]? = some (.cells cb tb (0, 0))) :
    (binOp .eql 338 (.pointer (some a)) (.pointer (some b))).run Tryz.prog w = .ok (.bool false) w := by
  obtain ⟨j, h3, h4⟩ := info_of_size Tryz.size88'
  exact run_eql_ptr_other w Tryz.underlying338 h3 h4 hne ha hb

/-- nat.cmp: the sign of the difference; here: that it is one of three. -/
theorem cmp_pos (g c g' c' n : Nat) (x y : Nat → Nat) (w : World) (h0 : 0 < n) (hn : n ≤ 900000) (hR : WRow w g c x n) (hR' : WRow w g' c' y n) (cx cy : Nat) :
    Calls Tryz.prog 188 #[.slice (some ⟨g, 0, none⟩) n cx, .slice (some ⟨g', 0, none⟩) n cy] w fun e w' => (∃ r : Int, e = .returned (.int .i64 r) ∧ -1 ≤ r ∧ r ≤ 1) ∧ Kept [] w w' := by
  have HR := hid hR
  have HR' := hid hR'
  clear hR hR'
  go_enter Tryz.func188, Tryz.ntmps188
  go_wp2
  go_loopw [7] (fun i wr => ∃ k : Nat, i = .int .i64 k ∧ k < n ∧ Hid (∃ m, wr = w.drewN m)) (fun i _ => (intOf i).toNat)
  case atStart => exact ⟨n - 1, by go_num, by omega, ⟨0, rfl⟩⟩
  case round =>
    obtain ⟨k, rfl, hk, HW⟩ := hrel
    obtain ⟨m, hm⟩ := HW.out
    subst hm
    have c1 := HR.out.cell (j := k) hk
    have c2 := HR'.out.cell (j := k) hk
    rcases (by omega : (0 < k ∧ x k = y k) ∨ (k = 0 ∧ x k = y k) ∨ x k < y k ∨ y k < x k) with ⟨hk0, hxy⟩ | ⟨rfl, hxy⟩ | hxy | hxy
    · have hxy' : ((x k : Int) == (y k : Int)) = true := by rw [hxy]; simp
      go_wp2
      go_quiet (fail)
      go_wp2
      exact ⟨⟨k - 1, by go_num, by omega, _, rfl⟩, by simp [intOf]; omega⟩
    · have hxy' : ¬ (x 0 : Int) < (y 0 : Int) := by omega
      have hyx' : ¬ (y 0 : Int) < (x 0 : Int) := by omega
      go_wp2
      go_quiet (fail)
      go_wp2
      go_quiet (fail)
      go_wp2
      go_quiet (fail)
      go_wp2
      go_ret
      exact ⟨⟨_, rfl, by omega, by omega⟩, by repeat' (first | exact Kept.refl _ _ | refine Kept.drewN ?_ _)⟩
    · have hxy' : ((x k : Int) == (y k : Int)) = false := by simp; omega
      by_cases hk0 : 0 < k
      · go_wp2
        go_quiet (fail)
        go_wp2
        go_quiet (fail)
        go_wp2
        go_ret
        exact ⟨⟨_, rfl, by omega, by omega⟩, by repeat' (first | exact Kept.refl _ _ | refine Kept.drewN ?_ _)⟩
      · obtain rfl : k = 0 := by omega
        go_wp2
        go_quiet (fail)
        go_wp2
        go_quiet (fail)
        go_wp2
        go_ret
        exact ⟨⟨_, rfl, by omega, by omega⟩, by repeat' (first | exact Kept.refl _ _ | refine Kept.drewN ?_ _)⟩
    · have hxy' : ((x k : Int) == (y k : Int)) = false := by simp; omega
      have hyx' : ¬ (x k : Int) < (y k : Int) := by omega
      by_cases hk0 : 0 < k
      · go_wp2
        go_quiet (fail)
        go_wp2
        go_quiet (fail)
        go_wp2
        go_quiet (fail)
        go_wp2
        go_ret
        exact ⟨⟨_, rfl, by omega, by omega⟩, by repeat' (first | exact Kept.refl _ _ | refine Kept.drewN ?_ _)⟩
      · obtain rfl : k = 0 := by omega
        go_wp2
        go_quiet (fail)
        go_wp2
        go_quiet (fail)
        go_wp2
        go_quiet (fail)
        go_wp2
        go_ret
        exact ⟨⟨_, rfl, by omega, by omega⟩, by repeat' (first | exact Kept.refl _ _ | refine Kept.drewN ?_ _)⟩

theorem cmp_short (n m : Nat) (ao ao' : Option Addr) (cx cy : Nat) (w : World) (h : n ≠ m ∨ n = 0) :
    Calls Tryz.prog 188 #[.slice ao n cx, .slice ao' m cy] w fun e w' => (∃ r : Int, e = .returned (.int .i64 r) ∧ -1 ≤ r ∧ r ≤ 1) ∧ Kept [] w w' := by
  rcases h with h | h
  · have hnm : ((n : Int) == (m : Int)) = false := by simp; omega
    rcases (by omega : n < m ∨ m < n) with h1 | h1
    · go_enter Tryz.func188, Tryz.ntmps188
      go_wp2
      go_ret
      exact ⟨⟨_, rfl, by omega, by omega⟩, by repeat' (first | exact Kept.refl _ _ | refine Kept.drewN ?_ _)⟩
    · go_enter Tryz.func188, Tryz.ntmps188
      go_wp2
      go_ret
      exact ⟨⟨_, rfl, by omega, by omega⟩, by repeat' (first | exact Kept.refl _ _ | refine Kept.drewN ?_ _)⟩
  · subst h
    by_cases hm : m = 0
    · subst hm
      go_enter Tryz.func188, Tryz.ntmps188
      go_wp2
      go_ret
      exact ⟨⟨_, rfl, by omega, by omega⟩, by repeat' (first | exact Kept.refl _ _ | refine Kept.drewN ?_ _)⟩
    · have hnm : ((0 : Int) == (m : Int)) = false := by simp; omega
      go_enter Tryz.func188, Tryz.ntmps188
      go_wp2
      go_ret
      exact ⟨⟨_, rfl, by omega, by omega⟩, by repeat' (first | exact Kept.refl _ _ | refine Kept.drewN ?_ _)⟩

theorem cmp_any (B B' V V' : Nat) (v v' : Value) (w : World) (h : NumV B w v V) (h' : NumV B' w v' V') (hV : V < 2 ^ (64 * 100)) :
    Calls Tryz.prog 188 #[v, v'] w fun e w' => (∃ r : Int, e = .returned (.int .i64 r) ∧ -1 ≤ r ∧ r ≤ 1) ∧ Kept [] w w' := by
  obtain ⟨n, x, hn, h1, _, _, _⟩ := h.words hV
  obtain ⟨m, y, h2, _, _, _⟩ := h'
  obtain ⟨ao, c, rfl⟩ := h1.shape
  obtain ⟨ao', c', rfl⟩ := h2.shape
  by_cases hc : n ≠ m ∨ n = 0
  · exact cmp_short n m ao ao' c c' w hc
  · obtain rfl : n = m := by omega
    rcases h1 with ⟨_, h3⟩ | ⟨g, c1, h3, _, _, _, hR⟩
    · omega
    · rcases h2 with ⟨_, h4⟩ | ⟨g', c2, h4, _, _, _, hR'⟩
      · omega
      · cases h3
        cases h4
        exact cmp_pos g c g' c' n x y w (by omega) (by omega) hR hR' c c'

theorem alias_nil (l c : Nat) (ao : Option Addr) (w : World) :
    Calls Tryz.prog 223 #[.slice none 0 0, .slice ao l c] w fun e w' => e = .returned (.bool false) ∧ Kept [] w w' := by
  go_enter Tryz.func223, Tryz.ntmps223
  go_wp2
  go_quiet (fail)
  go_wp2
  go_ret
  exact ⟨rfl, by repeat' (first | exact Kept.refl _ _ | refine Kept.drewN ?_ _)⟩

theorem alias_self (g : Nat) (w : World) :
    Calls Tryz.prog 223 #[.slice (some ⟨g, 0, none⟩) 1 1, .slice (some ⟨g, 0, none⟩) 1 1] w fun e w' => e = .returned (.bool true) ∧ Kept [] w w' := by
  have q := eql_word_same ⟨g, 0, none⟩
  go_enter Tryz.func223, Tryz.ntmps223
  go_wp2
  go_quiet (fail)
  go_wp2
  go_ret
  exact ⟨rfl, by repeat' (first | exact Kept.refl _ _ | refine Kept.drewN ?_ _)⟩

theorem alias_other (g g' l l' c c' : Nat) (o o' : Array Value) (w : World) (hne : g ≠ g') (hc : 1 ≤ c) (hc1 : 1 ≤ c') (hc2 : c ≤ 9223372036854775807) (hc3 : c' ≤ 9223372036854775807) (hl : l ≤ c) (hl' : l' ≤ c')
    (hg : w.heap[g]? = some (.cells o 88 (0, 0))) (hg' : w.heap[g']? = some (.cells o' 88 (0, 0))) :
    Calls Tryz.prog 223 #[.slice (some ⟨g, 0, none⟩) l c, .slice (some ⟨g', 0, none⟩) l' c'] w fun e w' => e = .returned (.bool false) ∧ Kept [] w w' := by
  have q := fun n => eql_word_other (a := ⟨g, c - 1, none⟩) (b := ⟨g', c' - 1, none⟩) (w.drewN n) (fun h => hne (congrArg Addr.block h)) hg hg'
  have n1 : 0 < c := by omega
  have n2 : 0 < c' := by omega
  have i1 : (0 : Int) ≤ (c : Int) := by omega
  have i2 : (0 : Int) ≤ (c' : Int) := by omega
  have i3 : (0 : Int) < (c : Int) := by omega
  have i4 : (0 : Int) < (c' : Int) := by omega
  have i5 : IntKind.i64.wrap ((c : Int) - 1) = (c : Int) - 1 := by rw [IntKind.wrap_i64]; omega
  have i6 : IntKind.i64.wrap ((c' : Int) - 1) = (c' : Int) - 1 := by rw [IntKind.wrap_i64]; omega
  have i7 : (0 : Int) ≤ (c : Int) - 1 := by omega
  have i8 : (0 : Int) ≤ (c' : Int) - 1 := by omega
  have i9 : (c : Int) - 1 < (c : Int) := by omega
  have i10 : (c' : Int) - 1 < (c' : Int) := by omega
  have i11 : ((c : Int) - 1).toNat = c - 1 := by omega
  have i12 : ((c' : Int) - 1).toNat = c' - 1 := by omega
  clear hg hg' hne
  go_enter Tryz.func223, Tryz.ntmps223
  go_wp2
  go_quiet (fail)
  go_wp2
  go_ret
  exact ⟨rfl, by repeat' (first | exact Kept.refl _ _ | refine Kept.drewN ?_ _)⟩
end

section
open Go.RowKit

theorem mulAddWWW_all (x y c : Nat) (hx : x < 18446744073709551616) (hy : y < 18446744073709551616) (hc : c < 18446744073709551616) :
    ∃ z1 z0 : Nat, z1 * 18446744073709551616 + z0 = x * y + c ∧ z1 < 18446744073709551616 ∧ z0 < 18446744073709551616 ∧ ∀ w, Calls Tryz.prog 271 #[.int .u64 x, .int .u64 y, .int .u64 c] w fun e w' => e = .returned (.tuple #[.int .u64 z1, .int .u64 z0]) ∧ w' = w := by
  have hxy := mul_le_BB x y hx hy
  have hdiv : (x * y + c) / 18446744073709551616 < 18446744073709551616 := by omega
  refine ⟨(x * y + c) / 18446744073709551616, (x * y + c) % 18446744073709551616, by omega, hdiv, Nat.mod_lt _ (by omega), fun w => (mulAddWWW_any x y c hx hy hc w).mono ?_⟩
  rintro e w' ⟨z1, z0, h1, h2, h3, rfl, rfl⟩
  have e1 : z1 = (x * y + c) / 18446744073709551616 := by omega
  have e0 : z0 = (x * y + c) % 18446744073709551616 := by omega
  rw [e1, e0]
  exact ⟨rfl, rfl⟩

theorem addMul_math (P xi c hi lo s cc : Nat) (h1 : hi * 18446744073709551616 + lo = P + xi) (h4 : cc * 18446744073709551616 + s = lo + c) (hP : P ≤ 340282366920938463426481119284349108225) (hx : xi < 18446744073709551616) (hc : c < 18446744073709551616) :
    (cc + hi) * 18446744073709551616 + s = P + xi + c ∧ cc + hi < 18446744073709551616 := by
  omega

set_option maxHeartbeats 2000000 in
theorem addMulVVWW_g_any (gz oz gy m cz cy capz L d a : Nat) (F y : Nat → Nat) (w : World) (hm : m ≤ 900000) (hcz : m ≤ cz) (hcz' : cz ≤ 9223372036854775807) (hcy : m ≤ cy) (hcy' : cy ≤ 9223372036854775807) (hL : oz + m ≤ L) (hne : gy ≠ gz)
    (hz : WRow w gz capz F L) (hF : ∀ j, j < L → F j < 18446744073709551616) (hyc : ∀ j, j < m → w.cell? ⟨gy, j, none⟩ = some (.int .u64 (y j : Nat))) (hy : ∀ j, j < m → y j < 18446744073709551616) (hd : d < 18446744073709551616) (ha : a < 18446744073709551616) :
    Calls Tryz.prog 307 #[.slice (some ⟨gz, oz, none⟩) m cz, .slice (some ⟨gz, oz, none⟩) m cz, .slice (some ⟨gy, 0, none⟩) m cy, .int .u64 d, .int .u64 a] w fun e w' =>
      ∃ (c : Nat) (G : Nat → Nat), e = .returned (.int .u64 c) ∧ c < 18446744073709551616 ∧ WRow w' gz capz G L ∧ (∀ j, j < L → G j < 18446744073709551616) ∧ (∀ j, j < oz ∨ oz + m ≤ j → G j = F j) ∧
        val (fun j => G (oz + j)) m + c * 2 ^ (64 * m) = val (fun j => F (oz + j)) m + val y m * d + a ∧ Kept [gz] w w' := by
  have HYC := hid hyc
  have HY := hid hy
  have HZ := hid hz
  have HF := hid hF
  have hcap := hz.le
  clear hyc hy hz hF
  go_enter Tryz.func307, Tryz.ntmps307
  go_wp2
  go_loopw [10, 32] (fun c i wr => ∃ (k c' : Nat) (G : Nat → Nat), c = .int .u64 c' ∧ c' < 18446744073709551616 ∧ i = .int .i64 k ∧ k ≤ m ∧ Hid (WRow wr gz capz G L) ∧ Hid (∀ j, j < L → G j < 18446744073709551616) ∧ Hid (∀ j, j < oz ∨ oz + k ≤ j → G j = F j) ∧
      Hid (val (fun j => G (oz + j)) k + c' * 2 ^ (64 * k) = val (fun j => F (oz + j)) k + val y k * d + a) ∧ Hid (Kept [gz] w wr)) (fun _ i _ => m - (intOf i).toNat)
  case atStart => exact ⟨0, a, F, rfl, ha, rfl, Nat.zero_le _, HZ, HF, fun _ _ => rfl, by simp [Hid, val], Kept.refl _ _⟩
  case round =>
    obtain ⟨k, c', G, rfl, hc', rfl, hk, HR, HB, HS, HV, HK⟩ := hrel
    by_cases hlt : k < m
    · have hck := HK.out.cellOf (HYC.out k hlt) (by simpa using hne)
      have hzk := HR.out.cell (j := oz + k) (by omega)
      have hfk := HR.out.free (oz + k)
      have hyk := HY.out k hlt
      have hGk := HB.out (oz + k) (by omega)
      obtain ⟨hi, lo, h1, h2, h3, hm1⟩ := mulAddWWW_all (y k) d (G (oz + k)) hyk hd hGk
      obtain ⟨s, cc, h4, h5, h6, ha1⟩ : ∃ s cc : Nat, cc * 18446744073709551616 + s = lo + c' ∧ s < 18446744073709551616 ∧ cc ≤ 1 ∧ ∀ w, Calls Tryz.prog 288 #[.int .u64 lo, .int .u64 c', .int .u64 0] w fun e w' => e = .returned (.tuple #[.int .u64 s, .int .u64 cc]) ∧ w' = w :=
        ⟨(lo + c' + 0) % 18446744073709551616, (lo + c' + 0) / 18446744073709551616, (split_1 lo c' h3 hc').1, (split_1 lo c' h3 hc').2.1, (split_1 lo c' h3 hc').2.2, bits_add lo c' 0 (Nat.zero_le _)⟩
      obtain ⟨hsum, hb⟩ := addMul_math _ (G (oz + k)) c' hi lo s cc h1 h4 (mul_le_BB _ _ hyk hd) hGk hc'
      have HM1 := hid hm1
      have HA1 := hid ha1
      have HSUM := hid hsum
      clear hm1 ha1 hsum h1 h4
      go_wp2
      go_quiet ((go_at_call 271; exact Calls.quiet_of_same (HM1.out _)))
      go_wp2_with fail
      refine (HA1.out _).mono ?_
      rintro e w2 ⟨rfl, rfl⟩
      go_wp2
      have hrow := hid (HR.out.store (oz + k) (.int .u64 (s : Nat)) (f' := fun j => .int .u64 (upd G (oz + k) s j : Nat)) (m := L) (by omega) (fun j hj => .inr hj) (fun _ => by rw [upd_self]) (fun j _ hj => by rw [upd_ne _ _ _ _ hj]))
      have hkk := hid (HK.out.setCell ⟨gz, oz + k, none⟩ (.int .u64 (s : Nat)) (.inl (by simp)))
      go_roundw
      case rel =>
        refine ⟨k + 1, cc + hi, upd G (oz + k) s, rfl, hb, by go_num, by omega, hrow.out, fun j hj => ?_, fun j hj => ?_, ?_, hkk.out.drewN _⟩
        · by_cases h : j = oz + k
          · subst h; rw [upd_self]; exact h5
          · rw [upd_ne _ _ _ _ h]; exact HB.out j hj
        · rw [upd_ne _ _ _ _ (by omega)]
          exact HS.out j (by omega)
        · have e1 : val (fun j => upd G (oz + k) s (oz + j)) (k + 1) = val (fun j => G (oz + j)) k + s * 2 ^ (64 * k) := by
            rw [val_succ, upd_self]
            congr 1
            exact val_congr fun j hj => upd_ne _ _ _ _ (by omega)
          have hGF : G (oz + k) = F (oz + k) := HS.out (oz + k) (by omega)
          show val (fun j => upd G (oz + k) s (oz + j)) (k + 1) + (cc + hi) * 2 ^ (64 * (k + 1)) = _
          rw [e1]
          exact addMul_step (x := fun j => F (oz + j)) (y := y) (z := fun j => G (oz + j)) HV.out (by rw [HSUM.out, hGF])
      case measure => simp [intOf]; omega
    · obtain rfl : k = m := by omega
      go_wp2
      go_ret
      exact ⟨c', G, rfl, hc', HR.out, HB.out, HS.out, HV.out, HK.out⟩

theorem addMulVVWW_any (gz oz gy m cz cy capz L d a : Nat) (F y : Nat → Nat) (w : World) (hm : m ≤ 900000) (hcz : m ≤ cz) (hcz' : cz ≤ 9223372036854775807) (hcy : m ≤ cy) (hcy' : cy ≤ 9223372036854775807) (hL : oz + m ≤ L) (hne : gy ≠ gz)
    (hz : WRow w gz capz F L) (hF : ∀ j, j < L → F j < 18446744073709551616) (hyc : ∀ j, j < m → w.cell? ⟨gy, j, none⟩ = some (.int .u64 (y j : Nat))) (hy : ∀ j, j < m → y j < 18446744073709551616) (hd : d < 18446744073709551616) (ha : a < 18446744073709551616) :
    Calls Tryz.prog 264 #[.slice (some ⟨gz, oz, none⟩) m cz, .slice (some ⟨gz, oz, none⟩) m cz, .slice (some ⟨gy, 0, none⟩) m cy, .int .u64 d, .int .u64 a] w fun e w' =>
      ∃ (c : Nat) (G : Nat → Nat), e = .returned (.int .u64 c) ∧ c < 18446744073709551616 ∧ WRow w' gz capz G L ∧ (∀ j, j < L → G j < 18446744073709551616) ∧ (∀ j, j < oz ∨ oz + m ≤ j → G j = F j) ∧
        val (fun j => G (oz + j)) m + c * 2 ^ (64 * m) = val (fun j => F (oz + j)) m + val y m * d + a ∧ Kept [gz] w w' := by
  have H := hid (addMulVVWW_g_any gz oz gy m cz cy capz L d a F y w hm hcz hcz' hcy hcy' hL hne hz hF hyc hy hd ha)
  clear hz hF hyc hy
  go_enter Tryz.func264, Tryz.ntmps264
  go_wp2_with fail
  refine (H.out).mono ?_
  rintro e w' ⟨c, G, rfl, h1, h2, h3, h4, h5, h6⟩
  have H2 := hid h2
  have H3 := hid h3
  have H4 := hid h4
  have H5 := hid h5
  clear h2 h3 h4 h5
  go_wp2
  go_ret
  exact ⟨c, G, rfl, h1, H2.out, H3.out, H4.out, H5.out, h6⟩
end

section
open Go.RowKit

theorem Tryz.zero88 : ∀ w : World, (zeroValue 88).run Tryz.prog w = .ok (.int .u64 0) w := fun w => by kernel_rfl

theorem sq_step (X vi P Fi d vw : Nat) (h : vw = X * vi) : vw + P * (X * d) = X * (vi + d * P) := by
  subst h; grind

/-- The number behind a round of the multiplication. -/
theorem val_round {F G x : Nat → Nat} {n i d c : Nat} (hGlow : ∀ j, j < i → G j = F j) (hF0 : F (n + i) = 0) (hv : val F (n + i) = val x n * val x i)
    (hm : val (fun j => G (i + j)) n + c * 2 ^ (64 * n) = val (fun j => F (i + j)) n + val x n * d + 0) :
    val (upd G (n + i) c) (n + (i + 1)) = val x n * (val x i + d * 2 ^ (64 * i)) := by
  rw [← Nat.add_assoc, val_upd, Nat.add_comm n i, val_shift G i n, val_congr hGlow]
  have h1 : val F i + 2 ^ (64 * i) * val (fun j => F (i + j)) n = val x n * val x i := by
    rw [← val_shift, Nat.add_comm i n]; exact hv
  have h2 : (2 : Nat) ^ (64 * (i + n)) = 2 ^ (64 * i) * 2 ^ (64 * n) := by rw [← Nat.pow_add]; congr 1; omega
  rw [h2]
  generalize (2 : Nat) ^ (64 * i) = P at *
  generalize (2 : Nat) ^ (64 * n) = Q at *
  generalize val (fun j => G (i + j)) n = A at *
  generalize val (fun j => F (i + j)) n = Bv at *
  have h3 := congrArg (fun t => P * t) hm
  grind

set_option maxHeartbeats 4000000 in
theorem basicMul_any (gz gx n cz cx capz : Nat) (x : Nat → Nat) (f : Nat → Value) (w : World) (h0 : 0 < n) (hn : n ≤ 400000) (hcz : n + n ≤ cz) (hcz' : cz ≤ 9223372036854775807) (hcx : n ≤ cx) (hcx' : cx ≤ 9223372036854775807) (hcap : n + n ≤ capz) (hne : gx ≠ gz)
    (hz : Row w gz 88 capz f 0) (hR : WRow w gx cx x n) (hx : ∀ j, j < n → x j < 18446744073709551616) (lz : Nat) (hlz : n + n ≤ lz) (hlz2 : lz ≤ cz) :
    Calls Tryz.prog 224 #[.slice (some ⟨gz, 0, none⟩) lz cz, .slice (some ⟨gx, 0, none⟩) n cx, .slice (some ⟨gx, 0, none⟩) n cx] w fun e w' =>
      e = .returned (.tuple #[]) ∧ ∃ z : Nat → Nat, WRow w' gz capz z (n + n) ∧ (∀ j, j < n + n → z j < 18446744073709551616) ∧ val z (n + n) = val x n * val x n ∧ Kept [gz] w w' := by
  obtain ⟨cur, hg, hcs, _⟩ := hz
  have hclr : ∀ ty, (Builtin.clear_ #[63] ty #[.slice (some ⟨gz, 0, none⟩) (n + n) cz]).run Tryz.prog w = .ok (.tuple #[]) (w.setCells gz 0 (List.replicate (n + n) (.int .u64 0))) := fun ty =>
    Lib.run_clear_slice w 63 88 ty (.int .u64 0) Tryz.underlying63 Tryz.zero88 rfl rfl gz 0 (n + n) cz (by omega) (fun j hj => by rw [cell_of_heap hg]; simp; omega) (fun j hj => frozen_of_heap hg _)
  obtain ⟨cur', g1, g2, _, g4, hk0⟩ := row_setCells (w := w) (cur := cur) (List.replicate (n + n) (.int .u64 0)) w cur 0 hg (by simp; omega)
  have hrow0 : WRow (w.setCells gz 0 (List.replicate (n + n) (.int .u64 0))) gz capz (fun _ => 0) (n + n) := ⟨cur', g1, by omega, fun j hj => by
    have := g4 j (.int .u64 0) (by simp [hj])
    rwa [Nat.zero_add] at this⟩
  have HR0 := hid hrow0
  have HK0 := hid hk0
  have HR := hid hR
  have HX := hid hx
  clear g1 g4 hk0 hrow0 hR hx hg
  go_enter Tryz.func224, Tryz.ntmps224
  go_wp2
  go_loopw [17] (fun i wr => ∃ (k : Nat) (F : Nat → Nat), i = .int .i64 k ∧ k ≤ n ∧ Hid (WRow wr gz capz F (n + n)) ∧ Hid (∀ j, j < n + n → F j < 18446744073709551616) ∧ Hid (∀ j, n + k ≤ j → j < n + n → F j = 0) ∧ Hid (val F (n + k) = val x n * val x k) ∧ Hid (Kept [gz] w wr)) (fun i _ => n - (intOf i).toNat)
  case atStart =>
    refine ⟨0, fun _ => 0, rfl, Nat.zero_le _, HR0, fun _ _ => by show 0 < _; omega, fun _ _ _ => rfl, ?_, HK0⟩
    show val (fun _ => 0) (n + 0) = val x n * 0
    rw [Nat.mul_zero]
    have : ∀ m, val (fun _ => 0) m = 0 := by
      intro m
      induction m with
      | zero => rfl
      | succ m ih => rw [val_succ, ih]; omega
    exact this _
  case round =>
    obtain ⟨k, F, rfl, hk, HF, HFB, HF0, HV, HK⟩ := hrel
    by_cases hkn : k < n
    · have hck := HK.out.cellOf (HR.out.cell hkn) (by simpa using hne)
      have hxk := HX.out k hkn
      obtain ⟨d, hd⟩ : ∃ d, d = x k := ⟨_, rfl⟩
      rw [← hd] at hck hxk
      have HDD := hid hd
      clear hd
      by_cases hd0 : d = 0
      · have hdz : ((d : Int) == 0) = true := by simp [hd0]
        go_wp2
        go_roundw
        case rel =>
          refine ⟨k + 1, F, by go_num, by omega, HF, HFB, fun j h1 h2 => HF0.out j (by omega) h2, ?_, HK⟩
          show val F (n + (k + 1)) = val x n * val x (k + 1)
          rw [← Nat.add_assoc, val_succ, val_succ, HF0.out (n + k) (by omega) (by omega), HV.out, ← HDD.out, hd0]
          simp
        case measure => simp [intOf]; omega
      · have hdz : ((d : Int) == 0) = false := by simp; omega
        have hcell : Hid (∀ j, j < n → wr.cell? ⟨gx, j, none⟩ = some (.int .u64 (x j : Nat))) := fun j hj => HK.out.cellOf (HR.out.cell hj) (by simpa using hne)
        have s1 : k + n - k = n := by omega
        have b1 : (0 : Int) ≤ (k : Int) := by omega
        have b2 : (k : Int) ≤ (k : Int) + (n : Int) := by omega
        have b3 : (k : Int) + (n : Int) ≤ (cz : Int) := by omega
        have b4 : ((k : Int) + (n : Int)).toNat = k + n := by omega
        have b5 : k ≤ k + n := by omega
        have b6 : k + n ≤ cz := by omega
        have b7 : IntKind.i64.wrap ((k : Int) + (n : Int)) = (k : Int) + (n : Int) := by rw [IntKind.wrap_i64]; omega
        have b8 : IntKind.i64.wrap ((n : Int) + (k : Int)) = (n : Int) + (k : Int) := by rw [IntKind.wrap_i64]; omega
        have b9 : (0 : Int) ≤ (n : Int) + (k : Int) := by omega
        have b10 : (n : Int) + (k : Int) < (lz : Int) := by omega
        have b12 : ¬ cz = k := by omega
        have b11 : ((n : Int) + (k : Int)).toNat = n + k := by omega
        have hclt : cz - k ≤ 9223372036854775807 := by omega
        go_wp2
        go_region_with (go_at_call 264; refine (addMulVVWW_any gz k gx n (cz - k) cx capz (n + n) d 0 F x wr.drew (by omega) (by omega) hclt hcx hcx' (by omega) hne HF.out HFB.out hcell.out HX.out hxk (by omega)).mono ?_; rintro e w3 ⟨c, G, rfl, hcb, hG, hGB, hGS, hGV, hk3⟩; have hsc := hG.cell (j := n + k) (by omega); have hsf := hG.free (n + k); have HG := hid hG; have HGB := hid hGB; have HGS := hid hGS; have HGV := hid hGV; clear hG hGB hGS hGV)
        have hrow := hid (HG.out.store (n + k) (.int .u64 (c : Nat)) (f' := fun j => .int .u64 (upd G (n + k) c j : Nat)) (m := n + n) (by omega) (fun j hj => .inr hj) (fun _ => by rw [upd_self]) (fun j _ hj => by rw [upd_ne _ _ _ _ hj]))
        have hkk := hid ((HK.out.trans hk3.ofDrew (ds := [gz]) (by simp) (by simp)).setCell ⟨gz, n + k, none⟩ (.int .u64 (c : Nat)) (.inl (by simp)))
        clear s1 b1 b2 b3 b4 b5 b6 b7 b8 b9 b10 b11 b12 hck hsc hsf hk3 hclt
        go_wp2
        go_roundw
        case rel =>
          refine ⟨k + 1, upd G (n + k) c, by go_num, by omega, hrow.out, fun j hj => ?_, fun j h1 h2 => ?_, ?_, hkk.out⟩
          · by_cases h : j = n + k
            · subst h; rw [upd_self]; exact hcb
            · rw [upd_ne _ _ _ _ h]; exact HGB.out j hj
          · rw [upd_ne _ _ _ _ (by omega), HGS.out j (by omega)]
            exact HF0.out j (by omega) h2
          · show val (upd G (n + k) c) (n + (k + 1)) = val x n * val x (k + 1)
            rw [val_succ x k, ← HDD.out]
            exact val_round (fun j hj => HGS.out j (.inl hj)) (HF0.out (n + k) (Nat.le_refl _) (by omega)) HV.out HGV.out
        case measure => simp [intOf]; omega
    · obtain rfl : k = n := by omega
      go_wp2
      go_end0
      exact ⟨rfl, F, HF.out, HFB.out, HV.out, HK.out⟩
end

section
open Go.RowKit

/-- A place for a result: nothing, or the head of a row of its own from block B on, not block b. -/
def Room (B : Nat) (w : World) (v : Value) (b : Nat) : Prop := v = .slice none 0 0 ∨ ∃ gz lz cz f, v = .slice (some ⟨gz, 0, none⟩) lz cz ∧ lz ≤ cz ∧ 1 ≤ cz ∧ cz ≤ 9223372036854775807 ∧ B ≤ gz ∧ gz ≠ b ∧ Row w gz 88 cz f 0

theorem make_room (B n b : Nat) (v : Value) (w : World) (hn : n ≤ 900000) (hn1 : 1 ≤ n) (h : Room B w v b) (hb : b < w.heap.size) :
    Calls Tryz.prog 58 #[v, .int .i64 n] w fun e w' => ∃ g' c' f', (v.ownBlock = some g' ∨ w.heap.size ≤ g') ∧ g' ≠ b ∧ n ≤ c' ∧ c' ≤ 9223372036854775807 ∧ e = .returned (.slice (some ⟨g', 0, none⟩) n c') ∧ Row w' g' 88 c' f' 0 ∧ Kept [] w w' := by
  rcases h with rfl | ⟨gz, lz, cz, f, rfl, h0, h1, h2, h3, h4, h5⟩
  · refine (make_any none 0 0 n w (by omega) (by omega)).mono ?_
    rintro e w' ⟨m, h1, h2, rfl, rfl⟩
    exact ⟨_, m, fun _ => .int .u64 0, .inr (Nat.le_refl _), by omega, h1, by omega, rfl, (Row.made w _ m 88).congr (Nat.zero_le _) (fun _ _ => rfl), (Kept.refl _ _).alloc _⟩
  · refine (make_row gz lz cz n w (by omega) h2 f h5 hn1).mono ?_
    rintro e w' ⟨g', c', f', h6, h7, h8, h9, h10, h11⟩
    exact ⟨g', c', f', h6.imp (fun h => by rw [h]; rfl) id, by rcases h6 with rfl | h; exact h4; omega, h7, h8, h9, h10, h11⟩

theorem alias_room (B b n c : Nat) (v : Value) (f : Nat → Value) (w : World) (h : Room B w v b) (hR : Row w b 88 c f n) (hc : 1 ≤ c) (hcc : c ≤ 9223372036854775807) (hn : n ≤ c) :
    Calls Tryz.prog 223 #[v, .slice (some ⟨b, 0, none⟩) n c] w fun e w' => e = .returned (.bool false) ∧ Kept [] w w' := by
  rcases h with rfl | ⟨gz, lz, cz, f', rfl, h0, h1, h2, h3, h4, h5⟩
  · exact alias_nil n c _ w
  · obtain ⟨o, ho, _⟩ := h5
    obtain ⟨o', ho', _⟩ := hR
    exact alias_other gz b lz n cz c o o' w h4 h1 hc h2 hcc h0 hn ho ho'

set_option maxHeartbeats 2000000 in
theorem sqr_one (gx cx : Nat) (zv st : Value) (x : Nat → Nat) (B : Nat) (w : World) (hcx : 1 ≤ cx) (hcx' : cx ≤ 9223372036854775807)
    (hR : WRow w gx cx x 1) (hx : x 0 < 18446744073709551616) (hzv : Room B w zv gx) (hB : B ≤ w.heap.size) (hBZ : ∀ k, zv.ownBlock = some k → B ≤ k) :
    Calls Tryz.prog 186 #[zv, st, .slice (some ⟨gx, 0, none⟩) 1 cx] w fun e w' => ∃ v', e = .returned v' ∧ NumV B w' v' (x 0 * x 0) ∧ Kept zv.ownBlock.toList w w' ∧ (∀ k, v'.ownBlock = some k → (zv.ownBlock = some k ∨ w.heap.size ≤ k) ∧ k ≠ gx) := by
  have hck := hR.cell (j := 0) (by omega)
  have hlt := hR.lt
  have HMK := hid (make_room B 2 gx zv w (by omega) (by omega) hzv hlt)
  have HBZ := hid hBZ
  obtain ⟨d, hd⟩ : ∃ d, d = x 0 := ⟨_, rfl⟩
  rw [← hd] at hck hx ⊢
  clear hzv hR hBZ hd
  go_enter Tryz.func186, Tryz.ntmps186
  go_wp2_with fail
  refine (HMK.out).mono ?_
  rintro e w1 ⟨gz, cz, f, hgz, hgx, hcz, hcz', rfl, hz, hk1⟩
  have HZ := hid hz
  have HK1 := hid hk1
  clear hz hk1
  go_wp2_with fail
  refine (mulWW_any d d hx hx w1).mono ?_
  rintro e w2 ⟨z1, z0, h1, h2, h3, rfl, rfl⟩
  obtain ⟨v0, hc0⟩ := HZ.out.has (j := 0) (by omega)
  obtain ⟨v1, hc1⟩ := HZ.out.has (j := 1) (by omega)
  have hf0 := HZ.out.free 0
  have hf1 := HZ.out.free 1
  have H1 := hid h1
  obtain ⟨cur, hcur, hcs, _⟩ := HZ.out
  have hcA := heap_setCell_self hcur 1 (.int .u64 (z1 : Nat))
  have hcB := heap_setCell_self hcA 0 (.int .u64 (z0 : Nat))
  have HROW : Hid (WRow ((w2.setCell ⟨gz, 1, none⟩ (.int .u64 (z1 : Nat))).setCell ⟨gz, 0, none⟩ (.int .u64 (z0 : Nat))) gz cz (fun j => if j = 0 then z0 else z1) 2) := by
    refine ⟨_, hcB, by simp; omega, fun j hj => ?_⟩
    rcases (by omega : j = 0 ∨ j = 1) with rfl | rfl
    · rw [Array.getElem?_setIfInBounds_self_of_lt (by simp; omega)]; rfl
    · rw [Array.getElem?_setIfInBounds_ne (by omega), Array.getElem?_setIfInBounds_self_of_lt (by omega)]; rfl
  have HK2 := hid ((HK1.out.mono (cs := [gz]) (by simp)).setCell ⟨gz, 1, none⟩ (.int .u64 (z1 : Nat)) (.inl (by simp)) |>.setCell ⟨gz, 0, none⟩ (.int .u64 (z0 : Nat)) (.inl (by simp)))
  clear h1 hcur hcA hcB hck
  go_wp2_with fail
  refine (norm_any gz 0 2 cz (fun j => if j = 0 then z0 else z1) _ hcz hcz' (fun j hj => by rw [Nat.zero_add]; exact HROW.out.cell hj)).mono ?_
  rintro e w3 ⟨k, hk, rfl, rfl⟩
  have HKN := hid hk
  clear hk
  go_wp2
  go_ret
  refine ⟨_, rfl, ⟨k, _, .inr ⟨gz, cz, rfl, ?_, by have := HKN.out.1; omega, hcz', HROW.out.congr HKN.out.1 (fun _ _ => rfl)⟩, fun j hj => ?_, HKN.out.2.1, ?_⟩, ?_, ?_⟩
  · rcases hgz with h | h
    · exact HBZ.out gz h
    · omega
  · show (if j = 0 then z0 else z1) < _
    split <;> omega
  · rw [← val_norm HKN.out]
    show (0 + z0 * 2 ^ (64 * 0)) + z1 * 2 ^ (64 * 1) = d * d
    rw [← H1.out, show (2 : Nat) ^ (64 * 1) = 18446744073709551616 from rfl]
    simp; omega
  · refine HK2.out.mono fun y hy => ?_
    obtain rfl : y = gz := by simpa using hy
    rcases hgz with h | h
    · left; simpa using h
    · exact .inr h
  · intro k' hk'
    simp [Value.ownBlock] at hk'
    subst hk'
    exact ⟨hgz, hgx⟩

set_option maxHeartbeats 2000000 in
theorem sqr_more (gx cx n : Nat) (zv st : Value) (x : Nat → Nat) (B : Nat) (w : World) (hn2 : 2 ≤ n) (hn : n ≤ 8) (hcx : n ≤ cx) (hcx' : cx ≤ 9223372036854775807)
    (hR : WRow w gx cx x n) (hx : ∀ j, j < n → x j < 18446744073709551616) (hzv : Room B w zv gx) (hB : B ≤ w.heap.size) (hBZ : ∀ k, zv.ownBlock = some k → B ≤ k) (hB20 : 20 ≤ B)
    (hG1 : w.cell? ⟨17, 0, none⟩ = some (.int .i64 12)) (hG2 : w.cell? ⟨18, 0, none⟩ = some (.int .i64 80)) :
    Calls Tryz.prog 186 #[zv, st, .slice (some ⟨gx, 0, none⟩) n cx] w fun e w' => ∃ v', e = .returned v' ∧ NumV B w' v' (val x n * val x n) ∧ Kept zv.ownBlock.toList w w' ∧ (∀ k, v'.ownBlock = some k → (zv.ownBlock = some k ∨ w.heap.size ≤ k) ∧ k ≠ gx) := by
  have hlt := hR.lt
  have hn0 : ((n : Int) == 0) = false := by simp; omega
  have hn1 : ((n : Int) == 1) = false := by simp; omega
  have HAL := hid (alias_room B gx n cx zv _ w hzv hR (by omega) hcx' hcx)
  have HRM := hid hzv
  have HR := hid hR
  have HX := hid hx
  have HBZ := hid hBZ
  have HG1 := hid hG1
  have HG2 := hid hG2
  clear hzv hR hBZ hx hG1 hG2
  go_enter Tryz.func186, Tryz.ntmps186
  go_wp2_with fail
  refine (HAL.out).mono ?_
  rintro e w0 ⟨rfl, hk0⟩
  have HR0 := hid (HR.out.kept hk0 (by simp))
  have HRM0 : Hid (Room B w0 zv gx) := by
    rcases HRM.out with h | ⟨gz, lz, cz, f, h1, h2, h3, h4, h5, h6, h7⟩
    · exact .inl h
    · exact .inr ⟨gz, lz, cz, f, h1, h2, h3, h4, h5, h6, h7.kept hk0 (by simp)⟩
  have g1 := hk0.cellOf HG1.out (by simp)
  have g2 := hk0.cellOf HG2.out (by simp)
  have HG1' := hid g1
  have HG2' := hid g2
  have HK0 := hid hk0
  have hs0 := hk0.size
  clear hk0 HRM g1 g2
  go_wp2_with fail
  refine (make_room B (2 * n) gx zv w0 (by omega) (by omega) HRM0.out (by omega)).mono ?_
  rintro e w1 ⟨gz, cz, f, hgz, hgx, hcz, hcz', rfl, hz, hk1⟩
  have HZ := hid hz
  have hc17 := hk1.cellOf HG1'.out (by simp)
  have hc18 := hk1.cellOf HG2'.out (by simp)
  have HR1 := hid (HR0.out.kept hk1 (by simp))
  have HK1 := hid (HK0.out.then hk1)
  have hs1 := hk1.size
  clear hz hk1
  go_wp2_with fail
  refine (basicMul_any gz gx n cz cx cz x f w1 (by omega) (by omega) (by omega) hcz' hcx hcx' (by omega) (fun h => hgx h.symm) HZ.out HR1.out HX.out (2 * n) (by omega) hcz).mono ?_
  rintro e w2 ⟨rfl, z, hrow, hzb, hv, hk2⟩
  have HROW := hid hrow
  have HZB := hid hzb
  have HV := hid hv
  have HK2 := hid (HK1.out.trans hk2 (ds := [gz]) (by simp) (by simp))
  clear hrow hzb hv hk2
  go_wp2_with fail
  refine (norm_any gz 0 (2 * n) cz z _ hcz hcz' (fun j hj => by rw [Nat.zero_add]; exact HROW.out.cell (by omega))).mono ?_
  rintro e w3 ⟨k, hk, rfl, rfl⟩
  have HKN := hid hk
  clear hk
  go_wp2
  go_ret
  refine ⟨_, rfl, ⟨k, z, .inr ⟨gz, cz, rfl, ?_, by have := HKN.out.1; omega, hcz', HROW.out.congr (by have := HKN.out.1; omega) (fun _ _ => rfl)⟩, fun j hj => HZB.out j (by have := HKN.out.1; omega), HKN.out.2.1, ?_⟩, ?_, ?_⟩
  · rcases hgz with h | h
    · exact HBZ.out gz h
    · omega
  · rw [← val_norm HKN.out, show 2 * n = n + n by omega]
    exact HV.out
  · refine HK2.out.mono fun y hy => ?_
    obtain rfl : y = gz := by simpa using hy
    rcases hgz with h | h
    · left; simpa using h
    · right; omega
  · intro k' hk'
    simp [Value.ownBlock] at hk'
    subst hk'
    exact ⟨hgz.imp id (fun h => by omega), hgx⟩

/-- nat.sqr, the result not in x's row. -/
theorem sqr_any (V : Nat) (zv st xv : Value) (B : Nat) (w : World) (hxv : NumV B w xv V) (hV0 : V ≠ 0) (hV : V < 2 ^ (64 * 8)) (hzv : ∀ b, xv.ownBlock = some b → Room B w zv b) (hB : B ≤ w.heap.size) (hBZ : ∀ k, zv.ownBlock = some k → B ≤ k) (hB20 : 20 ≤ B)
    (hG1 : w.cell? ⟨17, 0, none⟩ = some (.int .i64 12)) (hG2 : w.cell? ⟨18, 0, none⟩ = some (.int .i64 80)) :
    Calls Tryz.prog 186 #[zv, st, xv] w fun e w' => ∃ v', e = .returned v' ∧ NumV B w' v' (V * V) ∧ Kept zv.ownBlock.toList w w' ∧ (∀ k, v'.ownBlock = some k → (zv.ownBlock = some k ∨ w.heap.size ≤ k) ∧ xv.ownBlock ≠ some k) := by
  obtain ⟨n, x, hn, h1, h2, h3, h4⟩ := hxv.words hV
  have hn0 : n ≠ 0 := fun h => by subst h; exact hV0 h4.symm
  rcases h1 with ⟨_, h⟩ | ⟨g, c, rfl, h5, h6, h7, h8⟩
  · exact absurd h hn0
  · have hr := hzv g rfl
    by_cases h : n = 1
    · subst h
      refine (sqr_one g c zv st x B w h6 h7 h8 (h2 0 (by omega)) hr hB hBZ).mono ?_
      rintro e w' ⟨v', rfl, k1, k2, k3⟩
      rw [val_one] at h4
      rw [h4] at k1
      exact ⟨v', rfl, k1, k2, fun k hk => ⟨(k3 k hk).1, fun he => by simp [Value.ownBlock] at he; exact (k3 k hk).2 he.symm⟩⟩
    · refine (sqr_more g c n zv st x B w (by omega) hn h6 h7 h8 h2 hr hB hBZ hB20 hG1 hG2).mono ?_
      rintro e w' ⟨v', rfl, k1, k2, k3⟩
      rw [h4] at k1
      exact ⟨v', rfl, k1, k2, fun k hk => ⟨(k3 k hk).1, fun he => by simp [Value.ownBlock] at he; exact (k3 k hk).2 he.symm⟩⟩
end

end Go.Proofs.YtofmickjbpkgbaaGreatDoor
