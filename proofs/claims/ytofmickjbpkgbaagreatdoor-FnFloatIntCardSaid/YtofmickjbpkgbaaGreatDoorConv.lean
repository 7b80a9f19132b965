import Derived.Test.YtofmickjbpkgbaaGreatDoorConv0
namespace Go.Proofs.YtofmickjbpkgbaaGreatDoor
open Go.RowKit
set_option maxRecDepth 100000

/-- The figure of V at 10 to the power of k. -/
def fig (V k : Nat) : Nat := V / 10 ^ k % 10

theorem fig_lt (V k : Nat) : fig V k < 10 := Nat.mod_lt _ (by omega)

theorem fig_of (V k t : Nat) (ht : t < 19) : (V / 10 ^ (19 * k) % 10000000000000000000) / 10 ^ t % 10 = fig V (19 * k + t) := by
  have h1 : (10000000000000000000 : Nat) = 10 ^ t * 10 ^ (19 - t) := by rw [← Nat.pow_add, show t + (19 - t) = 19 by omega]
  rw [h1, Nat.mod_mul_right_div_self]
  have h2 : (10 : Nat) ∣ 10 ^ (19 - t) := by
    refine ⟨10 ^ (19 - t - 1), ?_⟩
    rw [← Nat.pow_succ', show (19 - t - 1).succ = 19 - t by omega]
  rw [Nat.mod_mod_of_dvd _ h2]
  unfold fig
  rw [Nat.div_div_eq_div_mul, ← Nat.pow_add]

theorem div_step (V k : Nat) : V / 10 ^ (19 * k) / 10000000000000000000 = V / 10 ^ (19 * (k + 1)) := by
  rw [Nat.div_div_eq_div_mul, show (10000000000000000000 : Nat) = 10 ^ 19 by decide, ← Nat.pow_add]
  rfl

theorem val_pos (x : Nat → Nat) (n : Nat) (hn : 0 < n) (h : x (n - 1) ≠ 0) : 0 < val x n := by
  obtain ⟨m, rfl⟩ : ∃ m, n = m + 1 := ⟨n - 1, by omega⟩
  simp only [Nat.add_sub_cancel] at h
  show 0 < val x m + x m * 2 ^ (64 * m)
  have := Nat.mul_pos (Nat.pos_of_ne_zero h) (Nat.two_pow_pos (64 * m))
  omega

theorem k_lt (V L k v : Nat) (h : v = V / 10 ^ (19 * k)) (hv : 0 < v) (hVL : V < 10 ^ L) : 19 * k < L := by
  subst h
  rcases Nat.lt_or_ge (19 * k) L with h | h
  · exact h
  · have : V < 10 ^ (19 * k) := Nat.lt_of_lt_of_le hVL (Nat.pow_le_pow_right (by omega) h)
    rw [Nat.div_eq_of_lt this] at hv
    omega

theorem fig_zero (V L k j : Nat) (h : V / 10 ^ (19 * k) = 0) (hj : 19 * k ≤ j) : fig V j = 0 := by
  unfold fig
  obtain ⟨d, rfl⟩ : ∃ d, j = 19 * k + d := ⟨j - 19 * k, by omega⟩
  rw [Nat.pow_add, ← Nat.div_div_eq_div_mul, h]
  simp

set_option maxHeartbeats 2000000 in
theorem convertWords_any (N : Nat) (D : DivOK N) (V gq cq gs L cs n : Nat) (x : Nat → Nat) (st : Value) (f0 : Nat → Value) (w : World) (hne : gq ≠ gs) (hn : n ≤ N) (hnc : n ≤ cq) (hcq : cq ≤ 9223372036854775807)
    (hL : L ≤ 1000000) (hLc : L ≤ cs) (hq : WRow w gq cq x n) (hx : ∀ j, j < n → x j < 18446744073709551616) (hnz : n = 0 ∨ x (n - 1) ≠ 0) (hV : val x n = V) (hVL : V < 10 ^ L)
    (hs : Row w gs 5 cs f0 L) :
    Calls Tryz.prog 128 #[.slice (some ⟨gq, 0, none⟩) n cq, st, .slice (some ⟨gs, 0, none⟩) L cs, .int .u64 10, .int .i64 19, .int .u64 10000000000000000000, .slice none 0 0] w fun e w' =>
      e = .returned (.tuple #[]) ∧ Row w' gs 5 cs (fun j => .int .u8 (48 + fig V (L - 1 - j) : Nat)) L ∧ Kept [gq, gs] w w' := by
  go_enter Tryz.func128, Tryz.ntmps128
  go_wp2
  have HV := hid hV
  have HL := hid hVL
  have HX := hid hx
  have HNZ := hid hnz
  clear hV hVL hx hnz
  go_loopw [0, 19] (fun q i wr => ∃ (k m p : Nat) (y : Nat → Nat) (f : Nat → Value), q = .slice (some ⟨gq, 0, none⟩) m cq ∧ m ≤ n ∧ i = .int .i64 p ∧ p ≤ L ∧ Hid (p = L - 19 * k) ∧ Hid (val y m = V / 10 ^ (19 * k)) ∧ Hid (∀ j, j < m → y j < 18446744073709551616) ∧
      Hid (m = 0 ∨ y (m - 1) ≠ 0) ∧ WRow wr gq cq y m ∧ Row wr gs 5 cs f L ∧ Hid (∀ j, L - 19 * k ≤ j → j < L → f j = .int .u8 (48 + fig V (L - 1 - j) : Nat)) ∧ Kept [gq, gs] w wr) (fun _ i _ => (intOf i).toNat)
  case atStart => exact ⟨0, n, L, x, f0, rfl, Nat.le_refl _, rfl, Nat.le_refl _, by simp [Hid], by simpa [Hid] using HV.out, HX, HNZ, hq, hs, fun j h1 h2 => by omega, Kept.refl _ _⟩
  case round =>
    obtain ⟨k, m, p, y, f, rfl, hm, rfl, hp, HP, HVY, HYB, HYN, hq', hs', HF, hkp⟩ := hrel
    by_cases h0 : m = 0
    · subst h0
      have hVz : V / 10 ^ (19 * k) = 0 := HVY.out.symm
      have HVZ := hid hVz
      clear hVz
      go_wp2
      obtain ⟨wo, rfl⟩ : ∃ wo : World, wo = wr := ⟨_, rfl⟩
      go_loopw [19] (fun i wr => ∃ (p' : Nat) (f' : Nat → Value), i = .int .i64 p' ∧ p' ≤ p ∧ Row wr gs 5 cs f' L ∧ Hid (∀ j, p' ≤ j → j < L → f' j = .int .u8 (48 + fig V (L - 1 - j) : Nat)) ∧ Kept [gq, gs] w wr) (fun i _ => (intOf i).toNat)
      case atStart => exact ⟨p, f, rfl, Nat.le_refl _, hs', fun j h1 h2 => HF.out j (by have := HP.out; omega) h2, hkp⟩
      case round =>
        obtain ⟨p', f', rfl, hp', hs2, HF', hk2⟩ := hrel
        by_cases hpp : 0 < p'
        · obtain ⟨v0, hc0⟩ := hs2.has (j := p' - 1) (by omega)
          have hf0 := hs2.free (p' - 1)
          go_wp2
          have hrow := hs2.store (p' - 1) (.int .u8 48) (f' := fun j => if j = p' - 1 then .int .u8 48 else f' j) (m := L) (by omega) (fun i hi => .inr hi) (fun _ => by simp) (fun i _ hi => by simp [hi])
          have hkk := hk2.setCell ⟨gs, p' - 1, none⟩ (.int .u8 48) (.inl (by simp))
          go_roundw
          case rel =>
            refine ⟨p' - 1, _, by go_num, by omega, hrow, ?_, hkk⟩
            intro j h1 h2
            by_cases hj : j = p' - 1
            · rw [if_pos hj]
              have h3 : fig V (L - 1 - j) = 0 := fig_zero V L k _ HVZ.out (by have := HP.out; omega)
              rw [h3]
              rfl
            · rw [if_neg hj]
              exact HF'.out j (by omega) h2
          case measure => simp [intOf]; omega
        · obtain rfl : p' = 0 := by omega
          go_wp2
          go_end0
          exact ⟨rfl, hs2.congr (Nat.le_refl _) (fun j hj => HF'.out j (by omega) hj), hk2⟩
    · have hpos : 0 < p := by
        have h1 := k_lt V L k _ HVY.out (val_pos y m (by omega) (HYN.out.resolve_left h0)) HL.out
        have h2 := HP.out
        omega
      have hgq := hq'.lt
      go_wp2_with fail
      refine (D m gq cq y wr (by omega) (by omega) (by omega) hcq hq' HYB.out).mono ?_
      rintro e w1 ⟨m1, y1, hm1, rfl, hq1, hv1, hb1, hn1, hk1⟩
      obtain ⟨R, hR⟩ : ∃ R, R = val y m % 10000000000000000000 := ⟨_, rfl⟩
      rw [← hR]
      have HR := hid hR
      have HV1 := hid hv1
      have HB1 := hid hb1
      have HN1 := hid hn1
      have hs1 := hs'.kept hk1 (by simp; omega)
      have hkp1 := hkp.trans hk1 (ds := [gq, gs]) (by simp) (by simp)
      have hRlt : R ≤ 18446744073709551615 := by rw [hR]; omega
      clear hR hv1 hb1 hn1 hk1 hs' hq' hkp
      go_wp2
      obtain ⟨wo, rfl⟩ : ∃ wo : World, wo = wr := ⟨_, rfl⟩
      go_loopw [19, 20, 21] (fun i r j wr => ∃ (t p' R' : Nat) (f' : Nat → Value), i = .int .i64 p' ∧ r = .int .u64 R' ∧ j = .int .i64 t ∧ t ≤ 19 ∧ p' ≤ L ∧ R' ≤ 18446744073709551615 ∧ Hid (p' = p - t) ∧ Hid (t ≤ p) ∧ Hid (R' = R / 10 ^ t) ∧
          Row wr gs 5 cs f' L ∧ Hid (∀ j, p - t ≤ j → j < L → f' j = .int .u8 (48 + fig V (L - 1 - j) : Nat)) ∧ WRow wr gq cq y1 m1 ∧ Kept [gq, gs] w wr) (fun _ _ j _ => 19 - (intOf j).toNat)
      case atStart => exact ⟨0, p, R, f, rfl, rfl, rfl, by omega, hp, hRlt, rfl, Nat.zero_le _, by simp [Hid], hs1, fun j h1 h2 => HF.out j (by have := HP.out; omega) h2, hq1, hkp1⟩
      case round =>
        obtain ⟨t, p', R', f', rfl, rfl, rfl, ht, hp', hR', HP', HT, HR', hs2, HF', hq2, hk2⟩ := hrel
        by_cases hlt : t < 19 ∧ 0 < p'
        · obtain ⟨hlt, hpp⟩ := hlt
          obtain ⟨v0, hc0⟩ := hs2.has (j := p' - 1) (by omega)
          have hf0 := hs2.free (p' - 1)
          have hgq := hq2.lt
          go_wp2
          have hrow := hs2.store (p' - 1) (.int .u8 (48 + ((R' : Int) - R' / 10 * 10))) (f' := fun j => if j = p' - 1 then .int .u8 (48 + ((R' : Int) - R' / 10 * 10)) else f' j) (m := L) (by omega) (fun i hi => .inr hi) (fun _ => by simp) (fun i _ hi => by simp [hi])
          have hqk := hq2.kept ((Kept.refl [gs] wr).setCell ⟨gs, p' - 1, none⟩ (.int .u8 (48 + ((R' : Int) - R' / 10 * 10))) (.inl (by simp))) (by simpa using hne)
          have hkk := hk2.setCell ⟨gs, p' - 1, none⟩ (.int .u8 (48 + ((R' : Int) - R' / 10 * 10))) (.inl (by simp))
          go_roundw
          case rel =>
            have hP := HP.out
            have hP' := HP'.out
            refine ⟨t + 1, p' - 1, R' / 10, _, by go_num, by go_num, by go_num, by omega, by omega, by omega, by unfold Hid; omega, by unfold Hid; omega, ?_, hrow, ?_, hqk, hkk⟩
            · show R' / 10 = R / 10 ^ (t + 1)
              rw [HR'.out, Nat.div_div_eq_div_mul, Nat.pow_succ]
            · intro j h1 h2
              by_cases hj : j = p' - 1
              · rw [if_pos hj]
                have h3 : R' % 10 = fig V (L - 1 - j) := by
                  rw [HR'.out, HR.out, HVY.out, fig_of V k t hlt]
                  congr 1
                  omega
                rw [← h3]
                congr 1
                omega
              · rw [if_neg hj]
                exact HF'.out j (by omega) h2
          case measure => simp [intOf]; omega
        · rcases (by omega : t = 19 ∨ (t < 19 ∧ p' = 0)) with h19 | ⟨h18, hp0⟩
          · subst h19
            go_wp2
            go_roundw
            case rel =>
              have hP := HP.out
              have hP' := HP'.out
              exact ⟨k + 1, m1, p', y1, f', rfl, by omega, rfl, hp', by unfold Hid; omega, by unfold Hid; rw [HV1.out, HVY.out, div_step], HB1, HN1, hq2, hs2, fun j h1 h2 => HF'.out j (by omega) h2, hk2⟩
            case measure => have hP' := HP'.out; simp [intOf]; omega
          · subst hp0
            go_wp2
            go_roundw
            case rel =>
              have hP := HP.out
              have hP' := HP'.out
              exact ⟨k + 1, m1, 0, y1, f', rfl, by omega, rfl, hp', by unfold Hid; omega, by unfold Hid; rw [HV1.out, HVY.out, div_step], HB1, HN1, hq2, hs2, fun j h1 h2 => HF'.out j (by omega) h2, hk2⟩
            case measure => simp [intOf]; omega
end Go.Proofs.YtofmickjbpkgbaaGreatDoor
