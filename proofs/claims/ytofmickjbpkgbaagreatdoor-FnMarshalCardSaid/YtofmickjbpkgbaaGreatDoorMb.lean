import Derived.Test.YtofmickjbpkgbaaGreatDoorMa
import Derived.Test.YtofmickjbpkgbaaGreatDoorMshelf1
import Derived.Lib.ItoaNum
import Derived.Laws.FloatArith
import Derived.Defers
import Derived.Lib.SlBytesConst
set_option maxRecDepth 100000
namespace Go.Proofs.YtofmickjbpkgbaaGreatDoor
section
open Go.RowKit

set_option maxHeartbeats 1000000 in
theorem maxPow_ten (w : World) : Calls Tryz.prog 126 #[.int .u64 10] w fun e w' => e = .returned (.tuple #[.int .u64 10000000000000000000, .int .i64 19]) ∧ w' = w := by
  go_enter Tryz.func126, Tryz.ntmps126
  go_wp2
  go_rounds 19
  go_ret2
  exact ⟨rfl, rfl⟩

theorem getStack_any (w : World) : Calls Tryz.prog 124 #[] w fun e w' => e = .returned (.pointer (some ⟨w.heap.size, 0, none⟩)) ∧ w' = w.alloc (.cells #[.pointer none] 247) := by
  go_enter Tryz.func124, Tryz.ntmps124
  go_wp2
  go_ret
  exact ⟨rfl, rfl⟩

theorem free_any (b : Nat) (w : World) (h : w.cell? ⟨b, 0, none⟩ = some (.pointer none)) : Calls Tryz.prog 125 #[.pointer (some ⟨b, 0, none⟩)] w fun e w' => e = .returned (.tuple #[]) ∧ w' = w := by
  go_enter Tryz.func125, Tryz.ntmps125
  go_wp2
  go_end0
  exact ⟨rfl, rfl⟩

theorem divisors_small (st : Value) (m : Nat) (b nd bb : Int) (w : World) (hm : m ≤ 8) (h : w.cell? ⟨10, 0, none⟩ = some (.int .i64 8)) :
    Calls Tryz.prog 127 #[st, .int .i64 m, .int .u64 b, .int .i64 nd, .int .u64 bb] w fun e w' => e = .returned (.slice none 0 0) ∧ w' = w := by
  go_enter Tryz.func127, Tryz.ntmps127
  go_wp2
  go_ret
  exact ⟨rfl, rfl⟩
end

section
open Go.RowKit

/-- The figure of V at 10 to the power of k. -/
def fig (V k : Nat) : Nat := V / 10 ^ k % 10

theorem fig_lt (V k : Nat) : fig V k < 10 := Nat.mod_lt _ (by omega)

theorem fig_of (V k t : Nat) (ht : t < 19) : (V / 10 ^ (19 * k) % 10000000000000000000) / 10 ^ t % 10 = fig V (19 * k + t) := by
  have h1 : (10000000000000000000 : Nat) = 10 ^ t * 10 ^ (19 - t) := by rw [← Nat.pow_add, show t + (19 - t) = 19 by omega]
  rw [h1, Nat.mod_mul_right_div_self]
  have h2 : (10 : Nat) ∣ 10 ^ (19 - t) := by
    refine ⟨10 ^ (19 - t - 1), ?_⟩
    rw [← Nat.pow_succ', show (19 - t - 1).succ = 19 - t by omega]
  rw [Nat.mod_mod_of_dvd _ h2]
  unfold fig
  rw [Nat.div_div_eq_div_mul, ← Nat.pow_add]

theorem div_step (V k : Nat) : V / 10 ^ (19 * k) / 10000000000000000000 = V / 10 ^ (19 * (k + 1)) := by
  rw [Nat.div_div_eq_div_mul, show (10000000000000000000 : Nat) = 10 ^ 19 by decide, ← Nat.pow_add]
  rfl

theorem val_pos (x : Nat → Nat) (n : Nat) (hn : 0 < n) (h : x (n - 1) ≠ 0) : 0 < val x n := by
  obtain ⟨m, rfl⟩ : ∃ m, n = m + 1 := ⟨n - 1, by omega⟩
  simp only [Nat.add_sub_cancel] at h
  show 0 < val x m + x m * 2 ^ (64 * m)
  have := Nat.mul_pos (Nat.pos_of_ne_zero h) (Nat.two_pow_pos (64 * m))
  omega

theorem k_lt (V L k v : Nat) (h : v = V / 10 ^ (19 * k)) (hv : 0 < v) (hVL : V < 10 ^ L) : 19 * k < L := by
  subst h
  rcases Nat.lt_or_ge (19 * k) L with h | h
  · exact h
  · have : V < 10 ^ (19 * k) := Nat.lt_of_lt_of_le hVL (Nat.pow_le_pow_right (by omega) h)
    rw [Nat.div_eq_of_lt this] at hv
    omega

theorem fig_zero (V L k j : Nat) (h : V / 10 ^ (19 * k) = 0) (hj : 19 * k ≤ j) : fig V j = 0 := by
  unfold fig
  obtain ⟨d, rfl⟩ : ∃ d, j = 19 * k + d := ⟨j - 19 * k, by omega⟩
  rw [Nat.pow_add, ← Nat.div_div_eq_div_mul, h]
  simp

set_option maxHeartbeats 2000000 in
theorem convertWords_any (N : Nat) (D : DivOK N) (V gq cq gs L cs n : Nat) (x : Nat → Nat) (st : Value) (f0 : Nat → Value) (w : World) (hne : gq ≠ gs) (hn : n ≤ N) (hnc : n ≤ cq) (hcq : cq ≤ 9223372036854775807)
    (hL : L ≤ 1000000) (hLc : L ≤ cs) (hq : WRow w gq cq x n) (hx : ∀ j, j < n → x j < 18446744073709551616) (hnz : n = 0 ∨ x (n - 1) ≠ 0) (hV : val x n = V) (hVL : V < 10 ^ L)
    (hs : Row w gs 5 cs f0 L) :
    Calls Tryz.prog 128 #[.slice (some ⟨gq, 0, none⟩) n cq, st, .slice (some ⟨gs, 0, none⟩) L cs, .int .u64 10, .int .i64 19, .int .u64 10000000000000000000, .slice none 0 0] w fun e w' =>
      e = .returned (.tuple #[]) ∧ Row w' gs 5 cs (fun j => .int .u8 (48 + fig V (L - 1 - j) : Nat)) L ∧ Kept [gq, gs] w w' := by
  go_enter Tryz.func128, Tryz.ntmps128
  go_wp2
  have HV := hid hV
  have HL := hid hVL
  have HX := hid hx
  have HNZ := hid hnz
  clear hV hVL hx hnz
  go_loopw [0, 19] (fun q i wr => ∃ (k m p : Nat) (y : Nat → Nat) (f : Nat → Value), q = .slice (some ⟨gq, 0, none⟩) m cq ∧ m ≤ n ∧ i = .int .i64 p ∧ p ≤ L ∧ Hid (p = L - 19 * k) ∧ Hid (val y m = V / 10 ^ (19 * k)) ∧ Hid (∀ j, j < m → y j < 18446744073709551616) ∧
      Hid (m = 0 ∨ y (m - 1) ≠ 0) ∧ WRow wr gq cq y m ∧ Row wr gs 5 cs f L ∧ Hid (∀ j, L - 19 * k ≤ j → j < L → f j = .int .u8 (48 + fig V (L - 1 - j) : Nat)) ∧ Kept [gq, gs] w wr) (fun _ i _ => (intOf i).toNat)
  case atStart => exact ⟨0, n, L, x, f0, rfl, Nat.le_refl _, rfl, Nat.le_refl _, by simp [Hid], by simpa [Hid] using HV.out, HX, HNZ, hq, hs, fun j h1 h2 => by omega, Kept.refl _ _⟩
  case round =>
    obtain ⟨k, m, p, y, f, rfl, hm, rfl, hp, HP, HVY, HYB, HYN, hq', hs', HF, hkp⟩ := hrel
    by_cases h0 : m = 0
    · subst h0
      have hVz : V / 10 ^ (19 * k) = 0 := HVY.out.symm
      have HVZ := hid hVz
      clear hVz
      go_wp2
      obtain ⟨wo, rfl⟩ : ∃ wo : World, wo = wr := ⟨_, rfl⟩
      go_loopw [19] (fun i wr => ∃ (p' : Nat) (f' : Nat → Value), i = .int .i64 p' ∧ p' ≤ p ∧ Row wr gs 5 cs f' L ∧ Hid (∀ j, p' ≤ j → j < L → f' j = .int .u8 (48 + fig V (L - 1 - j) : Nat)) ∧ Kept [gq, gs] w wr) (fun i _ => (intOf i).toNat)
      case atStart => exact ⟨p, f, rfl, Nat.le_refl _, hs', fun j h1 h2 => HF.out j (by have := HP.out; omega) h2, hkp⟩
      case round =>
        obtain ⟨p', f', rfl, hp', hs2, HF', hk2⟩ := hrel
        by_cases hpp : 0 < p'
        · obtain ⟨v0, hc0⟩ := hs2.has (j := p' - 1) (by omega)
          have hf0 := hs2.free (p' - 1)
          go_wp2
          have hrow := hs2.store (p' - 1) (.int .u8 48) (f' := fun j => if j = p' - 1 then .int .u8 48 else f' j) (m := L) (by omega) (fun i hi => .inr hi) (fun _ => by simp) (fun i _ hi => by simp [hi])
          have hkk := hk2.setCell ⟨gs, p' - 1, none⟩ (.int .u8 48) (.inl (by simp))
          go_roundw
          case rel =>
            refine ⟨p' - 1, _, by go_num, by omega, hrow, ?_, hkk⟩
            intro j h1 h2
            by_cases hj : j = p' - 1
            · rw [if_pos hj]
              have h3 : fig V (L - 1 - j) = 0 := fig_zero V L k _ HVZ.out (by have := HP.out; omega)
              rw [h3]
              rfl
            · rw [if_neg hj]
              exact HF'.out j (by omega) h2
          case measure => simp [intOf]; omega
        · obtain rfl : p' = 0 := by omega
          go_wp2
          go_end0
          exact ⟨rfl, hs2.congr (Nat.le_refl _) (fun j hj => HF'.out j (by omega) hj), hk2⟩
    · have hpos : 0 < p := by
        have h1 := k_lt V L k _ HVY.out (val_pos y m (by omega) (HYN.out.resolve_left h0)) HL.out
        have h2 := HP.out
        omega
      have hgq := hq'.lt
      go_wp2_with fail
      refine (D m gq cq y wr (by omega) (by omega) (by omega) hcq hq' HYB.out).mono ?_
      rintro e w1 ⟨m1, y1, hm1, rfl, hq1, hv1, hb1, hn1, hk1⟩
      obtain ⟨R, hR⟩ : ∃ R, R = val y m % 10000000000000000000 := ⟨_, rfl⟩
      rw [← hR]
      have HR := hid hR
      have HV1 := hid hv1
      have HB1 := hid hb1
      have HN1 := hid hn1
      have hs1 := hs'.kept hk1 (by simp; omega)
      have hkp1 := hkp.trans hk1 (ds := [gq, gs]) (by simp) (by simp)
      have hRlt : R ≤ 18446744073709551615 := by rw [hR]; omega
      clear hR hv1 hb1 hn1 hk1 hs' hq' hkp
      go_wp2
      obtain ⟨wo, rfl⟩ : ∃ wo : World, wo = wr := ⟨_, rfl⟩
      go_loopw [19, 20, 21] (fun i r j wr => ∃ (t p' R' : Nat) (f' : Nat → Value), i = .int .i64 p' ∧ r = .int .u64 R' ∧ j = .int .i64 t ∧ t ≤ 19 ∧ p' ≤ L ∧ R' ≤ 18446744073709551615 ∧ Hid (p' = p - t) ∧ Hid (t ≤ p) ∧ Hid (R' = R / 10 ^ t) ∧
          Row wr gs 5 cs f' L ∧ Hid (∀ j, p - t ≤ j → j < L → f' j = .int .u8 (48 + fig V (L - 1 - j) : Nat)) ∧ WRow wr gq cq y1 m1 ∧ Kept [gq, gs] w wr) (fun _ _ j _ => 19 - (intOf j).toNat)
      case atStart => exact ⟨0, p, R, f, rfl, rfl, rfl, by omega, hp, hRlt, rfl, Nat.zero_le _, by simp [Hid], hs1, fun j h1 h2 => HF.out j (by have := HP.out; omega) h2, hq1, hkp1⟩
      case round =>
        obtain ⟨t, p', R', f', rfl, rfl, rfl, ht, hp', hR', HP', HT, HR', hs2, HF', hq2, hk2⟩ := hrel
        by_cases hlt : t < 19 ∧ 0 < p'
        · obtain ⟨hlt, hpp⟩ := hlt
          obtain ⟨v0, hc0⟩ := hs2.has (j := p' - 1) (by omega)
          have hf0 := hs2.free (p' - 1)
          have hgq := hq2.lt
          go_wp2
          have hrow := hs2.store (p' - 1) (.int .u8 (48 + ((R' : Int) - R' / 10 * 10))) (f' := fun j => if j = p' - 1 then .int .u8 (48 + ((R' : Int) - R' / 10 * 10)) else f' j) (m := L) (by omega) (fun i hi => .inr hi) (fun _ => by simp) (fun i _ hi => by simp [hi])
          have hqk := hq2.kept ((Kept.refl [gs] wr).setCell ⟨gs, p' - 1, none⟩ (.int .u8 (48 + ((R' : Int) - R' / 10 * 10))) (.inl (by simp))) (by simpa using hne)
          have hkk := hk2.setCell ⟨gs, p' - 1, none⟩ (.int .u8 (48 + ((R' : Int) - R' / 10 * 10))) (.inl (by simp))
          go_roundw
          case rel =>
            have hP := HP.out
            have hP' := HP'.out
            refine ⟨t + 1, p' - 1, R' / 10, _, by go_num, by go_num, by go_num, by omega, by omega, by omega, by unfold Hid; omega, by unfold Hid; omega, ?_, hrow, ?_, hqk, hkk⟩
            · show R' / 10 = R / 10 ^ (t + 1)
              rw [HR'.out, Nat.div_div_eq_div_mul, Nat.pow_succ]
            · intro j h1 h2
              by_cases hj : j = p' - 1
              · rw [if_pos hj]
                have h3 : R' % 10 = fig V (L - 1 - j) := by
                  rw [HR'.out, HR.out, HVY.out, fig_of V k t hlt]
                  congr 1
                  omega
                rw [← h3]
                congr 1
                omega
              · rw [if_neg hj]
                exact HF'.out j (by omega) h2
          case measure => simp [intOf]; omega
        · rcases (by omega : t = 19 ∨ (t < 19 ∧ p' = 0)) with h19 | ⟨h18, hp0⟩
          · subst h19
            go_wp2
            go_roundw
            case rel =>
              have hP := HP.out
              have hP' := HP'.out
              exact ⟨k + 1, m1, p', y1, f', rfl, by omega, rfl, hp', by unfold Hid; omega, by unfold Hid; rw [HV1.out, HVY.out, div_step], HB1, HN1, hq2, hs2, fun j h1 h2 => HF'.out j (by omega) h2, hk2⟩
            case measure => have hP' := HP'.out; simp [intOf]; omega
          · subst hp0
            go_wp2
            go_roundw
            case rel =>
              have hP := HP.out
              have hP' := HP'.out
              exact ⟨k + 1, m1, 0, y1, f', rfl, by omega, rfl, hp', by unfold Hid; omega, by unfold Hid; rw [HV1.out, HVY.out, div_step], HB1, HN1, hq2, hs2, fun j h1 h2 => HF'.out j (by omega) h2, hk2⟩
            case measure => simp [intOf]; omega
end

section
open Go.RowKit

theorem bits_or_u64 (a b : Nat) (ha : a < 18446744073709551616) (hb : b < 18446744073709551616) :
    bits .or .u64 (a : Int) (b : Int) = ((a ||| b : Nat) : Int) ∧ (a ||| b) < 18446744073709551616 := by
  have hx : a ||| b < 2 ^ 64 := Nat.or_lt_two_pow (by omega) (by omega)
  have h1 : (BitVec.ofInt 64 (a : Int)).toNat = a := by
    rw [BitVec.ofInt_natCast, BitVec.toNat_ofNat]; exact Nat.mod_eq_of_lt (by omega)
  have h2 : (BitVec.ofInt 64 (b : Int)).toNat = b := by
    rw [BitVec.ofInt_natCast, BitVec.toNat_ofNat]; exact Nat.mod_eq_of_lt (by omega)
  refine ⟨?_, by omega⟩
  show IntKind.u64.wrap ((BitVec.ofInt 64 (a : Int) ||| BitVec.ofInt 64 (b : Int)).toNat : Int) = _
  rw [BitVec.toNat_or, h1, h2, IntKind.wrap_u64]
  omega

theorem smear (x : Nat) (q : Int) (z : Nat) (hx : x < 18446744073709551616) (hq : q = z) (hz : z ≤ x) : ∃ y : Nat, bits .or .u64 (x : Int) q = y ∧ x ≤ y ∧ y < 18446744073709551616 := by
  subst hq
  have h := bits_or_u64 x z hx (by omega)
  exact ⟨_, h.1, Nat.left_le_or, h.2⟩

theorem bitLen_pos (g c n : Nat) (x : Nat → Nat) (w : World) (h0 : 0 < n) (hn : n ≤ 900000) (hR : WRow w g c x n) (hx : x (n - 1) < 18446744073709551616) :
    Calls Tryz.prog 77 #[.slice (some ⟨g, 0, none⟩) n c] w fun e w' => ∃ t : Nat, x (n - 1) ≤ t ∧ t < 18446744073709551616 ∧ e = .returned (.int .i64 (64 * (n - 1) + Lib.bitLen t : Nat)) ∧ w' = w := by
  have hc := hR.cell (j := n - 1) (by omega)
  obtain ⟨x1, e1, l1, u1⟩ := smear (x (n - 1)) ((x (n - 1) : Int) / 2) (x (n - 1) / 2) hx (by omega) (by omega)
  obtain ⟨x2, e2, l2, u2⟩ := smear x1 ((x1 : Int) / 4) (x1 / 4) u1 (by omega) (by omega)
  obtain ⟨x3, e3, l3, u3⟩ := smear x2 ((x2 : Int) / 16) (x2 / 16) u2 (by omega) (by omega)
  obtain ⟨x4, e4, l4, u4⟩ := smear x3 ((x3 : Int) / 256) (x3 / 256) u3 (by omega) (by omega)
  obtain ⟨x5, e5, l5, u5⟩ := smear x4 ((x4 : Int) / 65536) (x4 / 65536) u4 (by omega) (by omega)
  obtain ⟨x6, e6, l6, u6⟩ := smear x5 ((x5 : Int) / 65536 / 65536) (x5 / 65536 / 65536) u5 (by omega) (by omega)
  go_enter Tryz.func77, Tryz.ntmps77
  go_wp2_with fail
  refine (Go.Proofs.Tryz.bits_Len (x6 : Int) _ (by omega) (by omega)).mono ?_
  rintro e w' ⟨rfl, rfl⟩
  have hb64 : Lib.bitLen x6 ≤ 64 := Lib.bitLen_le x6 64 (by omega) u6
  have hx6 : (Int.toNat (x6 : Int)) = x6 := Int.toNat_natCast x6
  go_wp2
  go_ret
  exact ⟨x6, by omega, u6, ret_i (by push_cast [Int.ofNat_sub (show 1 ≤ n by omega)]; omega), rfl⟩

theorem val_lt (x : Nat → Nat) (n : Nat) (h : ∀ j, j < n → x j < 18446744073709551616) : val x n < 2 ^ (64 * n) := by
  induction n with
  | zero => simp [val]
  | succ n ih =>
    have h1 := ih fun j hj => h j (by omega)
    have h2 := h n (by omega)
    have h3 : 2 ^ (64 * (n + 1)) = 18446744073709551616 * 2 ^ (64 * n) := by
      rw [show 64 * (n + 1) = 64 + 64 * n by omega, Nat.pow_add]
    rw [h3]
    show val x n + x n * 2 ^ (64 * n) < _
    have h4 : (x n + 1) * 2 ^ (64 * n) ≤ 18446744073709551616 * 2 ^ (64 * n) := Nat.mul_le_mul_right _ (by omega)
    rw [Nat.add_mul] at h4
    omega

theorem val_lt_bits (x : Nat → Nat) (n t : Nat) (h0 : 0 < n) (h : ∀ j, j < n → x j < 18446744073709551616) (ht : x (n - 1) ≤ t) (ht2 : t < 18446744073709551616) (hnz : x (n - 1) ≠ 0) :
    val x n < 2 ^ (64 * (n - 1) + Lib.bitLen t) ∧ 1 ≤ Lib.bitLen t ∧ Lib.bitLen t ≤ 64 := by
  obtain ⟨m, rfl⟩ : ∃ m, n = m + 1 := ⟨n - 1, by omega⟩
  simp only [Nat.add_sub_cancel] at *
  have hb := Lib.bitLenAux_bounds 64 t ht2 (by omega)
  refine ⟨?_, hb.1, Lib.bitLen_le t 64 (by omega) ht2⟩
  have h1 := val_lt x m fun j hj => h j (by omega)
  have h2 : t + 1 ≤ 2 ^ Lib.bitLen t := hb.2.2
  show val x m + x m * 2 ^ (64 * m) < _
  rw [Nat.pow_add, Nat.mul_comm (2 ^ (64 * m))]
  have h4 : (x m + 1) * 2 ^ (64 * m) ≤ 2 ^ Lib.bitLen t * 2 ^ (64 * m) := Nat.mul_le_mul_right _ (by omega)
  rw [Nat.add_mul] at h4
  omega

theorem bitLen_zero (ao : Option Addr) (c : Nat) (w : World) : Calls Tryz.prog 77 #[.slice ao 0 c] w fun e w' => e = .returned (.int .i64 0) ∧ w' = w := by
  go_enter Tryz.func77, Tryz.ntmps77
  go_wp2
  go_ret
  exact ⟨rfl, rfl⟩

/-- nat.bitLen of a number without noughts at its end: enough bits for it, and no more than its words have. -/
theorem bitLen_any (B n : Nat) (v : Value) (x : Nat → Nat) (w : World) (hn : n ≤ 900000) (hv : NatV B w v n x) (hx : ∀ j, j < n → x j < 18446744073709551616) (hnz : n = 0 ∨ x (n - 1) ≠ 0) :
    Calls Tryz.prog 77 #[v] w fun e w' => ∃ bl : Nat, e = .returned (.int .i64 bl) ∧ bl ≤ 64 * n ∧ (0 < n → 64 * (n - 1) < bl) ∧ val x n < 2 ^ bl ∧ w' = w := by
  by_cases h0 : n = 0
  · subst h0
    obtain ⟨ao, c, rfl⟩ := hv.shape
    exact (bitLen_zero ao c w).mono fun e w' ⟨h1, h2⟩ => ⟨0, h1, by omega, by omega, by simp [val], h2⟩
  · rcases hv with ⟨_, h⟩ | ⟨g, c, rfl, _, _, _, hR⟩
    · exact absurd h h0
    · refine (bitLen_pos g c n x w (by omega) hn hR (hx _ (by omega))).mono ?_
      rintro e w' ⟨t, h1, h2, rfl, rfl⟩
      have h := val_lt_bits x n t (by omega) hx h1 h2 (hnz.resolve_left h0)
      exact ⟨_, rfl, by omega, by omega, h.1, rfl⟩
end

section
open Go.RowKit

theorem run_f64bits (b : Nat) (w : World) : Sem.run Tryz.prog (callFunc 18 #[Value.float .f64 b]) w = .ok (.value (.int .u64 b)) w := by kernel_rfl
theorem run_f64from (n : Nat) (w : World) : Sem.run Tryz.prog (callFunc 295 #[Value.int .u64 n]) w = .ok (.value (.float .f64 n)) w := by kernel_rfl
theorem run_f64from2 (n : Nat) (w : World) : Sem.run Tryz.prog (callFunc 88 #[Value.int .u64 n]) w = .ok (.value (.float .f64 n)) w := by kernel_rfl
theorem run_archLog (w : World) : Sem.run Tryz.prog (callFunc 254 #[Value.float .f64 4603804719079489536]) w = .ok (.value (.float .f64 13825510489450817230)) w := by kernel_rfl

theorem abs_ten (w : World) : Calls Tryz.prog 324 #[.float .f64 4621819117588971520] w fun e w' => e = .returned (.float .f64 4621819117588971520) ∧ w' = w := by
  have r1 : ∀ w, Sem.run Tryz.prog (callFunc 18 #[Value.float .f64 4621819117588971520]) w = .ok (.value (.int .u64 4621819117588971520)) w := run_f64bits _
  have r2 : ∀ w, Sem.run Tryz.prog (callFunc 295 #[Value.int .u64 4621819117588971520]) w = .ok (.value (.float .f64 4621819117588971520)) w := run_f64from 4621819117588971520
  have b1 : bits .andNot .u64 4621819117588971520 9223372036854775808 = 4621819117588971520 := by kernel_rfl
  go_enter Tryz.func324, Tryz.ntmps324
  go_wp2
  go_ret
  exact ⟨rfl, rfl⟩

theorem isInf_ten (w : World) : Calls Tryz.prog 292 #[.float .f64 4621819117588971520, .int .i64 0] w fun e w' => e = .returned (.bool false) ∧ w' = w := by
  have o1 : (FloatKind.f64.format.order 4621819117588971520 9218868437227405311 == some Ordering.gt) = false := by kernel_rfl
  go_enter Tryz.func292, Tryz.ntmps292
  go_wp2_with fail
  refine (abs_ten w).mono ?_
  rintro e w' ⟨rfl, rfl⟩
  go_wp2
  go_ret
  exact ⟨rfl, rfl⟩

theorem isNaN_ten (w : World) : Calls Tryz.prog 293 #[.float .f64 4621819117588971520] w fun e w' => e = .returned (.bool false) ∧ w' = w := by
  have o1 : (FloatKind.f64.format.order 4621819117588971520 4621819117588971520 != some Ordering.eq) = false := by kernel_rfl
  go_enter Tryz.func293, Tryz.ntmps293
  go_wp2
  go_ret
  exact ⟨rfl, rfl⟩

theorem normalize_ten (w : World) : Calls Tryz.prog 294 #[.float .f64 4621819117588971520] w fun e w' => e = .returned (.tuple #[.float .f64 4621819117588971520, .int .i64 0]) ∧ w' = w := by
  have o1 : (FloatKind.f64.format.order 4621819117588971520 4503599627370496 == some Ordering.lt) = false := by kernel_rfl
  go_enter Tryz.func294, Tryz.ntmps294
  go_wp2_with fail
  refine (abs_ten w).mono ?_
  rintro e w' ⟨rfl, rfl⟩
  go_wp2
  go_ret2
  exact ⟨rfl, rfl⟩

theorem frexp_ten (w : World) : Calls Tryz.prog 253 #[.float .f64 4621819117588971520] w fun e w' => e = .returned (.tuple #[.float .f64 4603804719079489536, .int .i64 4]) ∧ w' = w := by
  have o1 : (FloatKind.f64.format.order 4621819117588971520 0 == some Ordering.eq) = false := by kernel_rfl
  have r1 : ∀ w, Sem.run Tryz.prog (callFunc 18 #[Value.float .f64 4621819117588971520]) w = .ok (.value (.int .u64 4621819117588971520)) w := run_f64bits _
  have r2 : ∀ w, Sem.run Tryz.prog (callFunc 295 #[Value.int .u64 4603804719079489536]) w = .ok (.value (.float .f64 4603804719079489536)) w := run_f64from 4603804719079489536
  have b1 : bits .and .u64 1026 2047 = 1026 := by kernel_rfl
  have b2 : bits .andNot .u64 4621819117588971520 9218868437227405312 = 1125899906842624 := by kernel_rfl
  have b3 : bits .or .u64 1125899906842624 4602678819172646912 = 4603804719079489536 := by kernel_rfl
  go_enter Tryz.func253, Tryz.ntmps253
  go_wp2_with (first | (go_at_call 292; refine (isInf_ten _).mono ?_; rintro e w' ⟨rfl, rfl⟩) | (go_at_call 293; refine (isNaN_ten _).mono ?_; rintro e w' ⟨rfl, rfl⟩) | (go_at_call 294; refine (normalize_ten _).mono ?_; rintro e w' ⟨rfl, rfl⟩))
  go_ret2
  exact ⟨rfl, rfl⟩

theorem frexp_ten' (w : World) : Calls Tryz.prog 219 #[.float .f64 4621819117588971520] w fun e w' => e = .returned (.tuple #[.float .f64 4603804719079489536, .int .i64 4]) ∧ w' = w := by
  go_enter Tryz.func219, Tryz.ntmps219
  go_wp2_with fail
  refine (frexp_ten w).mono ?_
  rintro e w' ⟨rfl, rfl⟩
  go_wp2
  go_ret2
  exact ⟨rfl, rfl⟩

theorem log_val (w : World) : Calls Tryz.prog 220 #[.float .f64 4603804719079489536] w fun e w' => e = .returned (.float .f64 13825510489450817230) ∧ w' = w := by
  have r1 := run_archLog
  go_enter Tryz.func220, Tryz.ntmps220
  go_wp2
  go_ret
  exact ⟨rfl, rfl⟩

theorem log2_ten (w : World) : Calls Tryz.prog 181 #[.float .f64 4621819117588971520] w fun e w' => e = .returned (.float .f64 4614662735865160561) ∧ w' = w := by
  have o1 : (FloatKind.f64.format.order 4603804719079489536 4602678819172646912 == some Ordering.eq) = false := by kernel_rfl
  have m1 : ∀ w, (binOp .mul 49 (.float .f64 13825510489450817230) (.float .f64 4609176140021203710)).run Tryz.prog w = .ok (.float .f64 13827654785158443579) w := fun w => run_float_arith w .mul 49 .f64 _ _ _ (by kernel_rfl)
  have m2 : ∀ w, (binOp .add 49 (.float .f64 13827654785158443579) (.float .f64 4616189618054758400)).run Tryz.prog w = .ok (.float .f64 4614662735865160561) w := fun w => run_float_arith w .add 49 .f64 _ _ _ (by kernel_rfl)
  have f4 : floatOfInt .f64 4 = 4616189618054758400 := by kernel_rfl
  go_enter Tryz.func181, Tryz.ntmps181
  go_wp2_with (first | (go_at_call 219; refine (frexp_ten' _).mono ?_; rintro e w' ⟨rfl, rfl⟩) | (go_at_call 220; refine (log_val _).mono ?_; rintro e w' ⟨rfl, rfl⟩))
  go_ret
  exact ⟨rfl, rfl⟩

theorem log2_ten' (w : World) : Calls Tryz.prog 122 #[.float .f64 4621819117588971520] w fun e w' => e = .returned (.float .f64 4614662735865160561) ∧ w' = w := by
  go_enter Tryz.func122, Tryz.ntmps122
  go_wp2_with fail
  refine (log2_ten w).mono ?_
  rintro e w' ⟨rfl, rfl⟩
  go_wp2
  go_ret
  exact ⟨rfl, rfl⟩
end

section
open Go.RowKit

/-- The quotient by which itoa reckons its buffer. -/
def bufQ (bl : Nat) : Nat := (floatBits .quo .f64 (floatOfInt .f64 (bl : Int)) 4614662735865160561).getD 0
def bufL (bl : Nat) : Nat := ((floatToIntVal .f64 (bufQ bl) .i64).getD 0).toNat

theorem buf_all : (List.range 193).all (fun bl => floatBits .quo .f64 (floatOfInt .f64 (bl : Int)) 4614662735865160561 == some (bufQ bl) && floatToIntVal .f64 (bufQ bl) .i64 == some ((bufL bl : Nat) : Int) && decide (bufL bl ≤ 57) && decide (2 ^ bl ≤ 10 ^ (bufL bl + 1))) = true := by kernel_rfl

theorem buf_at (bl : Nat) (h : bl ≤ 192) : floatBits .quo .f64 (floatOfInt .f64 (bl : Int)) 4614662735865160561 = some (bufQ bl) ∧ floatToIntVal .f64 (bufQ bl) .i64 = some ((bufL bl : Nat) : Int) ∧ bufL bl ≤ 57 ∧ 2 ^ bl ≤ 10 ^ (bufL bl + 1) := by
  have := List.all_eq_true.1 buf_all bl (List.mem_range.2 (by omega))
  simp only [Bool.and_eq_true, beq_iff_eq, decide_eq_true_eq] at this
  exact ⟨this.1.1.1, this.1.1.2, this.1.2, this.2⟩

theorem free_deferred (b : Nat) (u : FrameMode) (w : World) (h : w.cell? ⟨b, 0, none⟩ = some (.pointer none)) :
    CallsD Tryz.prog 125 #[.pointer (some ⟨b, 0, none⟩)] u w fun e u' w' => u' = u ∧ (e = .returned (.tuple #[]) ∧ w' = w) := by
  go_enter_d Tryz.func125, Tryz.ntmps125
  go_wp2
  go_end0
  exact ⟨rfl, rfl⟩


theorem lt_of_figs (V D : Nat) : ∀ d, V < 10 ^ (D + d) → (∀ k, D ≤ k → k < D + d → fig V k = 0) → V < 10 ^ D
  | 0, h, _ => h
  | d + 1, h, hf => by
    refine lt_of_figs V D d ?_ fun k h1 h2 => hf k h1 (by omega)
    have h0 := hf (D + d) (by omega) (by omega)
    unfold fig at h0
    have h1 : V / 10 ^ (D + d) < 10 := by
      rw [Nat.div_lt_iff_lt_mul (Nat.pow_pos (by omega))]
      rw [show D + (d + 1) = (D + d) + 1 by omega, Nat.pow_succ, Nat.mul_comm] at h
      exact h
    have h2 : V / 10 ^ (D + d) = 0 := by rw [Nat.mod_eq_of_lt h1] at h0; exact h0
    rcases Nat.div_eq_zero_iff.1 h2 with h3 | h3
    · have := Nat.pow_pos (n := D + d) (show 0 < 10 by omega); omega
    · exact h3

theorem le_of_fig (V k : Nat) (h : fig V k ≠ 0) : 10 ^ k ≤ V := by
  rcases Nat.lt_or_ge V (10 ^ k) with h1 | h1
  · unfold fig at h
    rw [Nat.div_eq_of_lt h1] at h
    exact absurd rfl h
  · exact h1

/-- What nat.itoa leaves: the figures of V, D of them, the first not 0 (but of 0 itself), in new memory. -/
def ItoaPost (V : Nat) (w : World) (e : Ending) (w' : World) : Prop :=
  ∃ g off D cap, e = .returned (.slice (some ⟨g, off, none⟩) D cap) ∧ 1 ≤ D ∧ D ≤ cap ∧ cap ≤ 1000 ∧ V < 10 ^ D ∧ (D = 1 ∨ 10 ^ (D - 1) ≤ V) ∧ w.heap.size ≤ g ∧
    (∀ k, k < D → w'.cell? ⟨g, off + k, none⟩ = some (.int .u8 (48 + fig V (D - 1 - k) : Nat))) ∧ Kept [] w w'

set_option maxHeartbeats 1000000 in
theorem itoa_zero (ao : Option Addr) (c : Nat) (w : World) : Calls Tryz.prog 75 #[.slice ao 0 c, .bool false, .int .i64 10] w (ItoaPost 0 w) := by
  have kc := fun (w : World) (C : Array Value) (n c : Nat) => Lib.run_convert_bytes_const (P := Tryz.prog) w 40 5 C n c Tryz.underlying40 Tryz.underlying5
  go_enter_defers Tryz.func75, Tryz.ntmps75
  go_wp2
  refine ⟨_, results_tmp rfl _ _ _, w.heap.size, 0, 1, 1, rfl, by omega, by omega, by omega, by decide, .inl rfl, Nat.le_refl _, ?_, (Kept.refl [] w).alloc _⟩
  intro k hk
  obtain rfl : k = 0 := by omega
  exact World.cell?_alloc_mark w _ _ _ _

set_option maxHeartbeats 4000000 in
theorem itoa_pos (N : Nat) (D : DivOK N) (g n c : Nat) (x : Nat → Nat) (w : World) (h0 : 0 < n) (hn : n ≤ N) (h3 : n ≤ 3) (hc : n ≤ c) (hcc : c ≤ 9223372036854775807) (hR : WRow w g c x n) (hx : ∀ j, j < n → x j < 18446744073709551616) (hnz : x (n - 1) ≠ 0) (hG : w.cell? ⟨10, 0, none⟩ = some (.int .i64 8)) :
    Calls Tryz.prog 75 #[.slice (some ⟨g, 0, none⟩) n c, .bool false, .int .i64 10] w (ItoaPost (val x n) w) := by
  obtain ⟨i5, hi5, hz50, hz51, hz52⟩ := info_parts Tryz.info5
  have f10 : floatOfInt .f64 10 = 4621819117588971520 := by kernel_rfl
  have HX := hid hx
  have HNZ := hid hnz
  clear hx hnz
  go_enter_defers Tryz.func75, Tryz.ntmps75
  go_wp2_with fail
  refine (bitLen_any 0 n _ x w (by omega) (.inr ⟨g, c, rfl, by omega, hc, hcc, hR⟩) HX.out (.inr HNZ.out)).mono ?_
  rintro e w' ⟨bl, rfl, hbl, hbl2, hvb, rfl⟩
  obtain ⟨b1, b2, b3, b4⟩ := buf_at bl (by omega)
  have HVB := hid hvb
  have HB4 := hid b4
  have q1 : ∀ w, (binOp .quo 49 (.float .f64 (floatOfInt .f64 (bl : Int))) (.float .f64 4614662735865160561)).run Tryz.prog w = .ok (.float .f64 (bufQ bl)) w := fun w => run_float_arith w .quo 49 .f64 _ _ _ b1
  have q2 : ∀ w, (convert 49 3 (.float .f64 (bufQ bl))).run Tryz.prog w = .ok (.int .i64 (bufL bl : Nat)) w := fun w => run_convert_float_int w 49 3 .f64 .i64 _ _ (by kernel_rfl) Tryz.underlying3 b2
  clear b1 b2 hbl2 hvb b4
  generalize bufL bl = L0 at *
  generalize bufQ bl = Q0 at *
  go_wp2_with fail
  refine (log2_ten' _).mono ?_
  rintro e w' ⟨rfl, rfl⟩
  go_wp2_with (at_make; refine wpList_make_any _ rfl _ _ 40 rfl 5 i5 (.int .u8 0) 1 Tryz.underlying40 hi5 hz50 hz51 hz52 rfl .i64 .i64 _ _ (L0 + 1) (L0 + 1) rfl rfl (by omega) (by omega) (by omega) (by omega) (by omega) ?_)
  have hVp := val_pos x n h0 HNZ.out
  have hVL : val x n < 10 ^ (L0 + 1) := Nat.lt_of_lt_of_le HVB.out HB4.out
  have hlt := hR.lt
  have hl10 := World.block_lt_of_cell? w' _ hG
  refine (getStack_any _).mono ?_
  rintro e w2 ⟨rfl, rfl⟩
  have hR2 := (hR.alloc (.cells (reps (.int .u8 0) (L0 + 1)) 5)).alloc (.cells #[.pointer none] 247)
  have hS2 := (Row.made w' (.int .u8 0) (L0 + 1) 5).alloc (.cells #[.pointer none] 247)
  have hK2 := ((Kept.refl [] w').alloc (.cells (reps (.int .u8 0) (L0 + 1)) 5)).alloc (.cells #[.pointer none] 247)
  have hst2 : ((w'.alloc (.cells (reps (.int .u8 0) (L0 + 1)) 5)).alloc (.cells #[.pointer none] 247)).cell? ⟨w'.heap.size + 1, 0, none⟩ = some (.pointer none) := by
    have := cell_of_heap (heap_alloc_new (w'.alloc (.cells (reps (.int .u8 0) (L0 + 1)) 5)) (.cells #[.pointer none] 247)) 0
    rw [World.size_alloc] at this
    exact this
  have hG2 := hK2.cellOf hG (by simp)
  have hz2 : ((w'.alloc (.cells (reps (.int .u8 0) (L0 + 1)) 5)).alloc (.cells #[.pointer none] 247)).heap.size = w'.heap.size + 2 := by simp
  have HVP := hid hVp
  have HVL := hid hVL
  have HR2 := hid hR2
  have HS2 := hid hS2
  have HK2 := hid hK2
  have HST := hid hst2
  have HG2 := hid hG2
  simp only [World.size_alloc]
  generalize hW2 : (w'.alloc (.cells (reps (.int .u8 0) (L0 + 1)) 5)).alloc (.cells #[.pointer none] 247) = W2 at *
  clear hR hG hVp hVL hR2 hS2 hK2 hst2 hG2 hW2
  go_wp2_with (first | (go_at_call 126; refine (maxPow_ten _).mono ?_; rintro e w3 ⟨rfl, rfl⟩) | (go_at_call 127; refine (divisors_small _ n _ _ _ _ (by omega) HG2.out).mono ?_; rintro e w3 ⟨rfl, rfl⟩))
  refine (set_pos none 0 n c _ g x w3 h0 (by omega) hc hcc HR2.out).mono ?_
  rintro e w4 ⟨c4, hc4, hc4', rfl, hr4, hk4⟩
  have HZ2 := hid hz2
  clear hz2
  have hS4 := HS2.out.kept hk4 (by simp)
  have HK4 := hid (HK2.out.then hk4)
  have HST4 := hid (hk4.cellOf HST.out (by simp))
  clear HR2 HS2 HK2 HST HG2
  go_wp2_with fail
  refine (convertWords_any N D (val x n) w3.heap.size c4 w'.heap.size (L0 + 1) (L0 + 1) n x _ _ w4 (by have := HZ2.out; omega) hn hc4 (by omega) (by omega) (Nat.le_refl _) hr4 HX.out (.inr HNZ.out) rfl HVL.out hS4).mono ?_
  rintro e w5 ⟨rfl, hS5, hk5⟩
  have HST5 := hid (hk5.cellOf HST4.out (by have := HZ2.out; simp; omega))
  have HK5 := hid (HK4.out.trans hk5 (by simp) (by have := HZ2.out; simp; omega) : Kept [] w' w5)
  have hS4 := hS5
  have hcell : ∀ j, j < L0 + 1 → w5.cell? ⟨w'.heap.size, j, none⟩ = some (.int .u8 (48 + (fig (val x n) (L0 + 1 - 1 - j) : Int))) := fun j hj => by
    have := hS5.cell hj
    rw [Int.natCast_add] at this
    exact this
  have HCL := hid hcell
  clear HK4 HST4 hcell hS4
  go_wp2
  go_loop [7] (fun i => ∃ j : Nat, i = .int .i64 j ∧ j ≤ L0 + 1 ∧ Hid (∀ m, m < j → fig (val x n) (L0 + 1 - 1 - m) = 0)) (fun i => L0 + 1 - (intOf i).toNat)
  case atStart => exact ⟨0, rfl, by omega, fun m hm => by omega⟩
  case round =>
    obtain ⟨j, rfl, hj, HZ⟩ := hrel
    have hjl : j < L0 + 1 := by
      rcases Nat.lt_or_ge j (L0 + 1) with h | h
      · exact h
      · exfalso
        have := lt_of_figs (val x n) 0 (L0 + 1) (by simpa using HVL.out) (fun k h1 h2 => by
          have := HZ.out (L0 - k) (by omega)
          rwa [show L0 + 1 - 1 - (L0 - k) = k by omega] at this)
        have := HVP.out
        omega
    have hcj := HCL.out j hjl
    go_wp2
    · have h : ((48 + fig (val x n) (L0 + 1 - 1 - j) : Int) == 48) = true := by assumption
      go_round
      case rel =>
        refine ⟨j + 1, by go_num, by omega, fun m hm => ?_⟩
        rcases Nat.lt_or_ge m j with h1 | h1
        · exact HZ.out m h1
        · obtain rfl : m = j := by omega
          have := eq_of_beq h
          omega
      case measure => simp [intOf]; omega
    · have h : ((48 + fig (val x n) (L0 + 1 - 1 - j) : Int) == 48) = false := by assumption
      refine leaves_cons (f := 125) (args := #[.pointer (some ⟨w'.heap.size + 1, 0, none⟩)]) (by simp) (by simp [go_sem]) ?_
      refine (free_deferred _ _ _ HST5.out).mono ?_
      rintro e u w6 ⟨rfl, rfl, rfl⟩
      refine ⟨_, results_tmp rfl _ _ _, w'.heap.size, j, L0 + 1 - j, L0 + 1 - j, by go_num, by omega, by omega, by omega, ?_, ?_, Nat.le_refl _, ?_, HK5.out⟩
      · refine lt_of_figs _ _ j (by rw [show L0 + 1 - j + j = L0 + 1 by omega]; exact HVL.out) fun k h1 h2 => ?_
        have := HZ.out (L0 - k) (by omega)
        rwa [show L0 + 1 - 1 - (L0 - k) = k by omega] at this
      · right
        rw [show L0 + 1 - j - 1 = L0 + 1 - 1 - j by omega]
        refine le_of_fig _ _ fun h1 => ?_
        rw [h1] at h
        cases h
      · intro k hk
        have := HCL.out (j + k) (by omega)
        rw [this, Int.natCast_add, show L0 + 1 - 1 - (j + k) = L0 + 1 - j - 1 - k by omega]
        rfl
end

end Go.Proofs.YtofmickjbpkgbaaGreatDoor
