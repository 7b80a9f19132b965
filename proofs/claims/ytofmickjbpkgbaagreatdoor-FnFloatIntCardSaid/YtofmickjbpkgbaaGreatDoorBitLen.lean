import Derived.Test.YtofmickjbpkgbaaGreatDoorConv
import Derived.Test.YtofmickjbpkgbaaGreatDoorShelf1
import Derived.Lib.ItoaNum
namespace Go.Proofs.YtofmickjbpkgbaaGreatDoor
open Go.RowKit
set_option maxRecDepth 100000

theorem bits_or_u64 (a b : Nat) (ha : a < 18446744073709551616) (hb : b < 18446744073709551616) :
    bits .or .u64 (a : Int) (b : Int) = ((a ||| b : Nat) : Int) ∧ (a ||| b) < 18446744073709551616 := by
  have hx : a ||| b < 2 ^ 64 := Nat.or_lt_two_pow (by omega) (by omega)
  have h1 : (BitVec.ofInt 64 (a : Int)).toNat = a := by
    rw [BitVec.ofInt_natCast, BitVec.toNat_ofNat]; exact Nat.mod_eq_of_lt (by omega)
  have h2 : (BitVec.ofInt 64 (b : Int)).toNat = b := by
    rw [BitVec.ofInt_natCast, BitVec.toNat_ofNat]; exact Nat.mod_eq_of_lt (by omega)
  refine ⟨?_, by omega⟩
  show IntKind.u64.wrap ((BitVec.ofInt 64 (a : Int) ||| BitVec.ofInt 64 (b : Int)).toNat : Int) = _
  rw [BitVec.toNat_or, h1, h2, IntKind.wrap_u64]
  omega

theorem smear (x : Nat) (q : Int) (z : Nat) (hx : x < 18446744073709551616) (hq : q = z) (hz : z ≤ x) : ∃ y : Nat, bits .or .u64 (x : Int) q = y ∧ x ≤ y ∧ y < 18446744073709551616 := by
  subst hq
  have h := bits_or_u64 x z hx (by omega)
  exact ⟨_, h.1, Nat.left_le_or, h.2⟩

theorem bitLen_pos (g c n : Nat) (x : Nat → Nat) (w : World) (h0 : 0 < n) (hn : n ≤ 900000) (hR : WRow w g c x n) (hx : x (n - 1) < 18446744073709551616) :
    Calls Tryz.prog 77 #[.slice (some ⟨g, 0, none⟩) n c] w fun e w' => ∃ t : Nat, x (n - 1) ≤ t ∧ t < 18446744073709551616 ∧ e = .returned (.int .i64 (64 * (n - 1) + Lib.bitLen t : Nat)) ∧ w' = w := by
  have hc := hR.cell (j := n - 1) (by omega)
  obtain ⟨x1, e1, l1, u1⟩ := smear (x (n - 1)) ((x (n - 1) : Int) / 2) (x (n - 1) / 2) hx (by omega) (by omega)
  obtain ⟨x2, e2, l2, u2⟩ := smear x1 ((x1 : Int) / 4) (x1 / 4) u1 (by omega) (by omega)
  obtain ⟨x3, e3, l3, u3⟩ := smear x2 ((x2 : Int) / 16) (x2 / 16) u2 (by omega) (by omega)
  obtain ⟨x4, e4, l4, u4⟩ := smear x3 ((x3 : Int) / 256) (x3 / 256) u3 (by omega) (by omega)
  obtain ⟨x5, e5, l5, u5⟩ := smear x4 ((x4 : Int) / 65536) (x4 / 65536) u4 (by omega) (by omega)
  obtain ⟨x6, e6, l6, u6⟩ := smear x5 ((x5 : Int) / 65536 / 65536) (x5 / 65536 / 65536) u5 (by omega) (by omega)
  go_enter Tryz.func77, Tryz.ntmps77
  go_wp2_with fail
  refine (Go.Proofs.Tryz.bits_Len (x6 : Int) _ (by omega) (by omega)).mono ?_
  rintro e w' ⟨rfl, rfl⟩
  have hb64 : Lib.bitLen x6 ≤ 64 := Lib.bitLen_le x6 64 (by omega) u6
  have hx6 : (Int.toNat (x6 : Int)) = x6 := Int.toNat_natCast x6
  go_wp2
  go_ret
  exact ⟨x6, by omega, u6, ret_i (by push_cast [Int.ofNat_sub (show 1 ≤ n by omega)]; omega), rfl⟩

theorem val_lt (x : Nat → Nat) (n : Nat) (h : ∀ j, j < n → x j < 18446744073709551616) : val x n < 2 ^ (64 * n) := by
  induction n with
  | zero => simp [val]
  | succ n ih =>
    have h1 := ih fun j hj => h j (by omega)
    have h2 := h n (by omega)
    have h3 : 2 ^ (64 * (n + 1)) = 18446744073709551616 * 2 ^ (64 * n) := by
      rw [show 64 * (n + 1) = 64 + 64 * n by omega, Nat.pow_add]
    rw [h3]
    show val x n + x n * 2 ^ (64 * n) < _
    have h4 : (x n + 1) * 2 ^ (64 * n) ≤ 18446744073709551616 * 2 ^ (64 * n) := Nat.mul_le_mul_right _ (by omega)
    rw [Nat.add_mul] at h4
    omega

theorem val_lt_bits (x : Nat → Nat) (n t : Nat) (h0 : 0 < n) (h : ∀ j, j < n → x j < 18446744073709551616) (ht : x (n - 1) ≤ t) (ht2 : t < 18446744073709551616) (hnz : x (n - 1) ≠ 0) :
    val x n < 2 ^ (64 * (n - 1) + Lib.bitLen t) ∧ 1 ≤ Lib.bitLen t ∧ Lib.bitLen t ≤ 64 := by
  obtain ⟨m, rfl⟩ : ∃ m, n = m + 1 := ⟨n - 1, by omega⟩
  simp only [Nat.add_sub_cancel] at *
  have hb := Lib.bitLenAux_bounds 64 t ht2 (by omega)
  refine ⟨?_, hb.1, Lib.bitLen_le t 64 (by omega) ht2⟩
  have h1 := val_lt x m fun j hj => h j (by omega)
  have h2 : t + 1 ≤ 2 ^ Lib.bitLen t := hb.2.2
  show val x m + x m * 2 ^ (64 * m) < _
  rw [Nat.pow_add, Nat.mul_comm (2 ^ (64 * m))]
  have h4 : (x m + 1) * 2 ^ (64 * m) ≤ 2 ^ Lib.bitLen t * 2 ^ (64 * m) := Nat.mul_le_mul_right _ (by omega)
  rw [Nat.add_mul] at h4
  omega

theorem bitLen_zero (ao : Option Addr) (c : Nat) (w : World) : Calls Tryz.prog 77 #[.slice ao 0 c] w fun e w' => e = .returned (.int .i64 0) ∧ w' = w := by
  go_enter Tryz.func77, Tryz.ntmps77
  go_wp2
  go_ret
  exact ⟨rfl, rfl⟩

/-- nat.bitLen of a number without noughts at its end: enough bits for it, and no more than its words have. -/
theorem bitLen_any (B n : Nat) (v : Value) (x : Nat → Nat) (w : World) (hn : n ≤ 900000) (hv : NatV B w v n x) (hx : ∀ j, j < n → x j < 18446744073709551616) (hnz : n = 0 ∨ x (n - 1) ≠ 0) :
    Calls Tryz.prog 77 #[v] w fun e w' => ∃ bl : Nat, e = .returned (.int .i64 bl) ∧ bl ≤ 64 * n ∧ (0 < n → 64 * (n - 1) < bl) ∧ val x n < 2 ^ bl ∧ w' = w := by
  by_cases h0 : n = 0
  · subst h0
    obtain ⟨ao, c, rfl⟩ := hv.shape
    exact (bitLen_zero ao c w).mono fun e w' ⟨h1, h2⟩ => ⟨0, h1, by omega, by omega, by simp [val], h2⟩
  · rcases hv with ⟨_, h⟩ | ⟨g, c, rfl, _, _, _, hR⟩
    · exact absurd h h0
    · refine (bitLen_pos g c n x w (by omega) hn hR (hx _ (by omega))).mono ?_
      rintro e w' ⟨t, h1, h2, rfl, rfl⟩
      have h := val_lt_bits x n t (by omega) hx h1 h2 (hnz.resolve_left h0)
      exact ⟨_, rfl, by omega, by omega, h.1, rfl⟩
end Go.Proofs.YtofmickjbpkgbaaGreatDoor
