import Derived.Test.YtofmickjbpkgbaaGreatDoorRead
namespace Go.Proofs.YtofmickjbpkgbaaGreatDoor
open Go.RowKit
set_option maxRecDepth 100000

theorem bits_and_u64 (a b : Nat) (ha : a < 18446744073709551616) (hb : b < 18446744073709551616) :
    bits .and .u64 (a : Int) (b : Int) = ((a &&& b : Nat) : Int) := by
  have hx : a &&& b < 2 ^ 64 := Nat.and_lt_two_pow _ (by omega)
  have h1 : (BitVec.ofInt 64 (a : Int)).toNat = a := by
    rw [BitVec.ofInt_natCast, BitVec.toNat_ofNat]; exact Nat.mod_eq_of_lt (by omega)
  have h2 : (BitVec.ofInt 64 (b : Int)).toNat = b := by
    rw [BitVec.ofInt_natCast, BitVec.toNat_ofNat]; exact Nat.mod_eq_of_lt (by omega)
  show IntKind.u64.wrap ((BitVec.ofInt 64 (a : Int) &&& BitVec.ofInt 64 (b : Int)).toNat : Int) = _
  rw [BitVec.toNat_and, h1, h2, IntKind.wrap_u64]
  omega

/-- Without the bit 52 of a number that has it. -/
theorem bits_andNot52 (a : Nat) (ha : a < 18446744073709551616) :
    bits .andNot .u64 (a : Int) 4503599627370496 = ((a - (a &&& 4503599627370496) : Nat) : Int) := by
  have h1 : (BitVec.ofInt 64 (a : Int)).toNat = a := by
    rw [BitVec.ofInt_natCast, BitVec.toNat_ofNat]; exact Nat.mod_eq_of_lt (by omega)
  have h2 : (BitVec.ofInt 64 (4503599627370496 : Int)).toNat = 4503599627370496 := by decide
  show IntKind.u64.wrap ((BitVec.ofInt 64 (a : Int) &&& ~~~ BitVec.ofInt 64 4503599627370496).toNat : Int) = _
  generalize BitVec.ofInt 64 (a : Int) = x at *
  generalize BitVec.ofInt 64 (4503599627370496 : Int) = y at *
  have hd : (x &&& y) + (x &&& ~~~y) = x := by
    rw [BitVec.add_eq_or_of_and_eq_zero]
    · ext i hi
      simp
      cases x[i] <;> cases y[i] <;> rfl
    · ext i hi
      simp
      cases x[i] <;> cases y[i] <;> simp
  have h3 := congrArg BitVec.toNat hd
  rw [BitVec.toNat_add] at h3
  have h4 : (x &&& y).toNat = a &&& 4503599627370496 := by rw [BitVec.toNat_and, h1, h2]
  have h5 : (x &&& y).toNat ≤ x.toNat := by rw [BitVec.toNat_and]; exact Nat.and_le_left
  have h6 : (x &&& ~~~y).toNat ≤ x.toNat := by rw [BitVec.toNat_and]; exact Nat.and_le_left
  have h7 := x.isLt
  rw [← h4, ← h1, IntKind.wrap_u64]
  have h8 : (2 : Nat) ^ 64 = 18446744073709551616 := rfl
  rw [h8] at h3 h7
  generalize (x &&& y).toNat = p at *
  generalize (x &&& ~~~y).toNat = q at *
  generalize x.toNat = r at *
  omega

theorem add_or (i a b : Nat) (h : b < 2 ^ i) : 2 ^ i * a ||| b = 2 ^ i * a + b := (Nat.two_pow_add_eq_or_of_lt h a).symm

/-- The bit 52 of S + 2 ^ 52 + r. -/
theorem bit52 (s r : Nat) (hs : s = 0 ∨ s = 9223372036854775808) (hr : r < 4503599627370496) : (s + 4503599627370496 + r) &&& 4503599627370496 = 4503599627370496 := by
  have hb : (s + 4503599627370496 + r).testBit 52 = true := by
    rw [Nat.testBit_eq_decide_div_mod_eq]
    simp
    omega
  apply Nat.eq_of_testBit_eq
  intro j
  rw [Nat.testBit_and, show (4503599627370496 : Nat) = 2 ^ 52 from rfl, Nat.testBit_two_pow]
  by_cases hj : 52 = j
  · subst hj
    rw [show (2 : Nat) ^ 52 = 4503599627370496 from rfl, hb]; rfl
  · simp [hj]
theorem log2Pow10_zero (w : World) : Calls Tryz.prog 137 #[.int .i64 0] w fun e w' => e = .returned (.int .i64 0) ∧ w' = w := by
  go_enter Tryz.func137, Tryz.ntmps137
  go_wp2
  go_ret
  exact ⟨rfl, rfl⟩

theorem unmin_two53 (w : World) : Calls Tryz.prog 141 #[.int .u64 9007199254740992] w fun e w' => e = .returned (.int .u64 36028797018963966) ∧ w' = w := by
  go_enter Tryz.func141, Tryz.ntmps141
  go_wp2
  go_ret
  exact ⟨rfl, rfl⟩

theorem prescale_zero (b : Nat) (w : World) (hb : w.heap[b]? = some (.cells #[.int .u64 0, .int .u64 0, .int .i64 0] 213 (0, 0))) (h0 : w.cell? ⟨11, 696, none⟩ = some (.int .u64 9223372036854775808)) (h1 : w.cell? ⟨11, 697, none⟩ = some (.int .u64 0)) (hne : b ≠ 11) :
    Calls Tryz.prog 138 #[.pointer (some ⟨b, 0, none⟩), .int .i64 (-11), .int .i64 0, .int .i64 0] w fun e w' => e = .returned (.tuple #[]) ∧
      w'.heap[b]? = some (.cells #[.int .u64 9223372036854775808, .int .u64 0, .int .i64 8] 213 (0, 0)) ∧ Kept [b] w w' := by
  have d0 : w.cell? ⟨b, 0, none⟩ = some (.int .u64 0) := (cell_of_heap hb 0).trans rfl
  have d1 : w.cell? ⟨b, 1, none⟩ = some (.int .u64 0) := (cell_of_heap hb 1).trans rfl
  have d2 : w.cell? ⟨b, 2, none⟩ = some (.int .i64 0) := (cell_of_heap hb 2).trans rfl
  have f0 := frozen_of_heap hb 0
  have f1 := frozen_of_heap hb 1
  have f2 := frozen_of_heap hb 2
  have HB := hid hb
  clear hb
  go_enter Tryz.func138, Tryz.ntmps138
  go_wp2
  go_end0
  refine ⟨rfl, ?_, (((Kept.refl [b] w).setCell _ _ (.inl (by simp))).setCell _ _ (.inl (by simp))).setCell _ _ (.inl (by simp))⟩
  have h1 := heap_setCell_self HB.out 0 (.int .u64 9223372036854775808)
  have h2 := heap_setCell_self h1 1 (.int .u64 0)
  have h3 := heap_setCell_self h2 2 (.int .i64 8)
  exact h3

theorem bool2u_false (w : World) : Calls Tryz.prog 87 #[.bool false] w fun e w' => e = .returned (.int .u64 0) ∧ w' = w := by
  go_enter Tryz.func87, Tryz.ntmps87
  go_wp2
  go_ret
  exact ⟨rfl, rfl⟩
theorem bool2u_true (w : World) : Calls Tryz.prog 87 #[.bool true] w fun e w' => e = .returned (.int .u64 1) ∧ w' = w := by
  go_enter Tryz.func87, Tryz.ntmps87
  go_wp2
  go_ret
  exact ⟨rfl, rfl⟩
theorem bool2i_false (w : World) : Calls Tryz.prog 140 #[.bool false] w fun e w' => e = .returned (.int .i64 0) ∧ w' = w := by
  go_enter Tryz.func140, Tryz.ntmps140
  go_wp2
  go_ret
  exact ⟨rfl, rfl⟩

theorem mul_top (V : Nat) : 2048 * V * 9223372036854775808 / 18446744073709551616 = 1024 * V ∧ 2048 * V * 9223372036854775808 % 18446744073709551616 = 0 := by omega

set_option maxHeartbeats 1000000 in
theorem uscale_plain (V b : Nat) (w : World) (hV : V < 9007199254740992) (hb : w.heap[b]? = some (.cells #[.int .u64 9223372036854775808, .int .u64 0, .int .i64 8] 213 (0, 0))) :
    Calls Tryz.prog 139 #[.int .u64 (2048 * V : Nat), .pointer (some ⟨b, 0, none⟩)] w fun e w' => e = .returned (.int .u64 (4 * V : Nat)) ∧ ∃ k, w' = w.drewN k := by
  have d0 : w.cell? ⟨b, 0, none⟩ = some (.int .u64 9223372036854775808) := (cell_of_heap hb 0).trans rfl
  have d1 : w.cell? ⟨b, 1, none⟩ = some (.int .u64 0) := (cell_of_heap hb 1).trans rfl
  have d2 : w.cell? ⟨b, 2, none⟩ = some (.int .i64 8) := (cell_of_heap hb 2).trans rfl
  obtain ⟨m1, m2⟩ := mul_top V
  clear hb
  obtain ⟨X, hX⟩ : ∃ X : Nat, X = 2048 * V := ⟨_, rfl⟩
  rw [← hX] at m1 m2 ⊢
  have HX := hid hX
  have hXb : X < 18446744073709551616 := by omega
  clear hX
  have hm := Tryz.bits_Mul64 X 9223372036854775808 hXb (by omega)
  have hm0 := Tryz.bits_Mul64 X 0 hXb (by omega)
  rw [m1, m2] at hm
  rw [Nat.mul_zero] at hm0
  have HM := hid hm
  have HM0 := hid hm0
  clear m1 m2 hm hm0
  have hand : bits .and .i64 8 63 = 8 := by kernel_rfl
  have hor : bits .or .u64 (1024 * (V : Int) / 256) 0 = ((4 * V : Nat) : Int) := by
    have := bits_or_u64 (1024 * V / 256) 0 (by omega) (by omega)
    rw [Nat.or_zero, show 1024 * V / 256 = 4 * V by omega] at this
    rw [← this.1]; congr 1; omega
  go_enter Tryz.func139, Tryz.ntmps139
  go_wp2_with fail
  refine (HM.out w).mono ?_
  rintro e w' ⟨rfl, rfl⟩
  go_wp2_with (first | (go_at_call 196; refine (HM0.out w').mono ?_; rintro e w' ⟨rfl, rfl⟩) | (go_at_call 87; refine (bool2u_false _).mono ?_; rintro e w' ⟨rfl, rfl⟩))
  go_region_with (go_at_call 87; refine (bool2u_false _).mono ?_; rintro e w' ⟨rfl, rfl⟩)
  all_goals
    go_wp2
    go_ret
    exact ⟨ret_i (by omega), 1, rfl⟩
end Go.Proofs.YtofmickjbpkgbaaGreatDoor
