import Derived.Test.YtofmickjbpkgbaaGreatDoorPf64
namespace Go.Proofs.YtofmickjbpkgbaaGreatDoor
open Go.RowKit
set_option maxRecDepth 100000

/-- The bits of a whole number as a float64. -/
def fbits (V : Nat) : Nat := if V = 0 then 0 else (1022 + V.log2) * 4503599627370496 + V * 2 ^ (52 - V.log2)

theorem log2_le (V : Nat) (h0 : V ≠ 0) (h : V < 9007199254740992) : V.log2 ≤ 52 := by
  have := (Nat.log2_lt h0).2 (show V < 2 ^ 53 by omega)
  omega

theorem sig_bounds (V : Nat) (h0 : V ≠ 0) (h : V < 9007199254740992) : 4503599627370496 ≤ V * 2 ^ (52 - V.log2) ∧ V * 2 ^ (52 - V.log2) < 9007199254740992 := by
  have hl := log2_le V h0 h
  have h1 := Nat.log2_self_le h0
  have h2 := Nat.lt_log2_self (n := V)
  have e1 : 2 ^ V.log2 * 2 ^ (52 - V.log2) = 4503599627370496 := by
    rw [← Nat.pow_add, show V.log2 + (52 - V.log2) = 52 by omega]
  constructor
  · rw [← e1]; exact Nat.mul_le_mul_right _ h1
  · have : V * 2 ^ (52 - V.log2) < 2 ^ (V.log2 + 1) * 2 ^ (52 - V.log2) := Nat.mul_lt_mul_of_pos_right h2 (Nat.pow_pos (by omega))
    rw [Nat.pow_succ, Nat.mul_right_comm, e1] at this
    exact this

theorem fbits_lt (V : Nat) (h : V < 9007199254740992) : fbits V < 9218868437227405312 := by
  unfold fbits
  split
  · omega
  · rename_i h0
    have := sig_bounds V h0 h
    have := log2_le V h0 h
    generalize V * 2 ^ (52 - V.log2) = q at *
    generalize V.log2 = e at *
    omega

theorem cut_zero (neg : Bool) (n : Nat) : Ieee.Toward.even.cut neg n 0 = n := by
  unfold Ieee.Toward.cut
  simp [Nat.mod_one]

theorem floatOfInt_nat (V : Nat) (h0 : V ≠ 0) (h : V < 9007199254740992) : floatOfInt .f64 (V : Int) = fbits V := by
  have hl := log2_le V h0 h
  have hs := sig_bounds V h0 h
  have hb := fbits_lt V h
  unfold floatOfInt FloatKind.nearest FloatKind.encode FloatKind.format Ieee.Format.write
  have hneg : decide ((V : Int) < 0) = false := by simp
  simp only [hneg, Int.natAbs_natCast]
  unfold Ieee.Format.nearest
  rw [if_neg h0]
  have hlast : max ((0 : Int) + V.log2 - Ieee.double.fractionBits) Ieee.double.leastPlace = (V.log2 : Int) - 52 := by
    have : Ieee.double.leastPlace = -1074 := by decide
    rw [this]
    show max ((0 : Int) + V.log2 - 52) (-1074) = _
    omega
  simp only [hlast]
  have e1 : ((0 : Int) - ((V.log2 : Int) - 52)).toNat = 52 - V.log2 := by omega
  have e2 : (((V.log2 : Int) - 52) - 0).toNat = 0 := by omega
  have e3 : (((V.log2 : Int) - 52) - Ieee.double.leastPlace).toNat = 1022 + V.log2 := by
    have : Ieee.double.leastPlace = -1074 := by decide
    rw [this]; omega
  rw [e1, e2, e3, cut_zero]
  have e4 : Ieee.double.binade = 4503599627370496 := rfl
  have e5 : Ieee.double.infRung = 9218868437227405312 := by decide
  rw [e4, e5, Nat.shiftLeft_eq]
  unfold Ieee.Format.word
  rw [if_neg (by decide)]
  unfold fbits at hb ⊢
  rw [if_neg h0] at hb ⊢
  exact Nat.min_eq_left (by omega)

theorem negFloat_add (b : Nat) (h : b < 9223372036854775808) : b ^^^ 9223372036854775808 = 9223372036854775808 + b := by
  have h1 := add_or 63 1 b (by omega)
  simp at h1
  rw [← h1]
  apply Nat.eq_of_testBit_eq
  intro j
  rw [Nat.testBit_xor, Nat.testBit_or, show (9223372036854775808 : Nat) = 2 ^ 63 from rfl, Nat.testBit_two_pow]
  by_cases hj : 63 = j
  · subst hj
    have : b.testBit 63 = false := Nat.testBit_lt_two_pow (by omega)
    simp [this]
  · simp [hj]
def sbit (neg : Bool) : Nat := if neg then 9223372036854775808 else 0

theorem exact_small (V : Nat) (neg : Bool) (w : World) (hV : V < 4503599627370496) (h0 : V ≠ 0) (h6 : w.cell? ⟨6, 0, none⟩ = some (.int .u64 52)) :
    Calls Tryz.prog 89 #[.int .u64 (V : Nat), .int .i64 0, .bool neg] w fun e w' => e = .returned (.tuple #[.float .f64 (sbit neg + fbits V), .bool true]) ∧ w' = w := by
  have hf := floatOfInt_nat V h0 (by omega)
  have hb := fbits_lt V (by omega)
  have hn := negFloat_add (fbits V) (by omega)
  have hz : ((V : Int) / 4503599627370496) = 0 := by omega
  generalize fbits V = F at *
  have hu : ∀ w, (Op.unary UnOp.neg (.float .f64 F)).run Tryz.prog w = .ok (.float .f64 (9223372036854775808 + F)) w := fun w => by
    rw [← hn]
    rfl
  clear hn
  go_enter Tryz.func89, Tryz.ntmps89
  cases neg
  · go_wp2
    go_ret2
    exact ⟨by simp [sbit], rfl⟩
  · go_wp2
    go_ret2
    exact ⟨by simp [sbit], rfl⟩

theorem exact_big (V : Nat) (neg : Bool) (w : World) (hV : V < 9007199254740992) (h0 : 4503599627370496 ≤ V) (h6 : w.cell? ⟨6, 0, none⟩ = some (.int .u64 52)) :
    Calls Tryz.prog 89 #[.int .u64 (V : Nat), .int .i64 0, .bool neg] w fun e w' => e = .returned (.tuple #[.float .f64 0, .bool false]) ∧ w' = w := by
  have hz : ((V : Int) / 4503599627370496) = 1 := by omega
  go_enter Tryz.func89, Tryz.ntmps89
  go_wp2
  go_ret2
  exact ⟨rfl, rfl⟩
end Go.Proofs.YtofmickjbpkgbaaGreatDoor
