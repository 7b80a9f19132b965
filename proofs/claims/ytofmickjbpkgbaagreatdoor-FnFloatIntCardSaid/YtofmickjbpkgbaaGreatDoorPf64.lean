import Derived.Test.YtofmickjbpkgbaaGreatDoorScale
namespace Go.Proofs.YtofmickjbpkgbaaGreatDoor
open Go.RowKit
set_option maxRecDepth 100000

theorem round_four (V : Nat) (w : World) (hV : V < 9007199254740992) :
    Calls Tryz.prog 143 #[.int .u64 (4 * V : Nat)] w fun e w' => e = .returned (.int .u64 (V : Nat)) ∧ w' = w := by
  have hand : bits .and .u64 (V : Int) 1 = ((V % 2 : Nat) : Int) := by
    have := bits_and_u64 V 1 (by omega) (by omega)
    rw [Nat.and_one_is_mod] at this
    exact this
  have hq : V % 2 ≤ 1 := by omega
  generalize V % 2 = q at *
  go_enter Tryz.func143, Tryz.ntmps143
  go_wp2
  go_ret
  exact ⟨ret_i (by omega), rfl⟩

theorem pack64_any (s r : Nat) (w : World) (hs : s = 0 ∨ s = 9223372036854775808) (hr : r < 4503599627370496) :
    Calls Tryz.prog 146 #[.int .u64 (s + 4503599627370496 + r : Nat), .int .i64 0] w fun e w' => e = .returned (.tuple #[.float .f64 (s + 4841369599423283200 + r), .nilIface]) ∧ w' = w := by
  have h1 := bits_and_u64 (s + 4503599627370496 + r) 4503599627370496 (by omega) (by omega)
  have h2 := bits_andNot52 (s + 4503599627370496 + r) (by omega)
  rw [bit52 s r hs hr] at h1 h2
  have h3 : bits .or .u64 ((s + r : Nat) : Int) 4841369599423283200 = ((s + 4841369599423283200 + r : Nat) : Int) := by
    have h4 := (bits_or_u64 (s + r) 4841369599423283200 (by omega) (by omega)).1
    have h5 : s + r ||| 4841369599423283200 = s + 4841369599423283200 + r := by
      rw [Nat.or_comm]
      rcases hs with rfl | rfl
      · have := add_or 52 1075 r hr
        simp at this ⊢
        exact this
      · have h6 := add_or 63 1 r (by omega)
        have h7 := add_or 52 1075 r hr
        have h8 := add_or 63 1 (2 ^ 52 * 1075 + r) (by omega)
        simp at h6 h7 h8
        rw [← h6, ← Nat.or_assoc, Nat.or_comm 4841369599423283200 9223372036854775808, Nat.or_assoc, h7, h8]
        omega
    rw [h5] at h4
    exact h4
  have h2' : s + 4503599627370496 + r - 4503599627370496 = s + r := by omega
  rw [h2'] at h2
  have hf := fun (n : Nat) (w : World) => run_f64from2 n w
  clear h2'
  have hm0 : s + 4503599627370496 + r < 18446744073709551616 := by omega
  generalize s + 4503599627370496 + r = m at *
  generalize s + 4841369599423283200 + r = R at *
  generalize s + r = t at *
  clear hs hr
  have h1 : bits .and .u64 (m : Int) 4503599627370496 = 4503599627370496 := h1
  go_enter Tryz.func146, Tryz.ntmps146
  go_wp2
  go_ret2
  exact ⟨rfl, rfl⟩

theorem bitLen_53 (r : Nat) (hr : r < 4503599627370496) : Lib.bitLen (4503599627370496 + r) = 53 := by
  have h := Lib.bitLenAux_bounds 64 (4503599627370496 + r) (by omega) (by omega)
  show Lib.bitLenAux 64 (4503599627370496 + r) = 53
  generalize Lib.bitLenAux 64 (4503599627370496 + r) = k at *
  obtain ⟨h1, h2, h3⟩ := h
  rcases Nat.lt_or_ge k 53 with h4 | h4
  · have := Nat.pow_le_pow_right (n := 2) (by omega) (show k ≤ 52 by omega)
    omega
  · rcases Nat.lt_or_ge 53 k with h5 | h5
    · have := Nat.pow_le_pow_right (n := 2) (by omega) (show 53 ≤ k - 1 by omega)
      omega
    · omega

set_option maxHeartbeats 1000000 in
theorem parseFloat64_plain (s r : Nat) (w : World) (hs : s = 0 ∨ s = 9223372036854775808) (hr : r < 4503599627370496) (h0 : w.cell? ⟨11, 696, none⟩ = some (.int .u64 9223372036854775808)) (h1 : w.cell? ⟨11, 697, none⟩ = some (.int .u64 0)) :
    Calls Tryz.prog 90 #[.int .u64 (4503599627370496 + r : Nat), .int .i64 0, .int .u64 (s : Nat)] w fun e w' => e = .returned (.tuple #[.float .f64 (s + 4841369599423283200 + r), .nilIface]) ∧ Kept [] w w' := by
  have hl := Tryz.bits_Len64 (4503599627370496 + r : Nat) w (by omega) (by omega)
  rw [Int.toNat_natCast, bitLen_53 r hr] at hl
  have hor : bits .or .u64 (s : Int) ((4503599627370496 + r : Nat) : Int) = ((s + 4503599627370496 + r : Nat) : Int) := by
    have h4 := (bits_or_u64 s (4503599627370496 + r) (by omega) (by omega)).1
    rw [h4]
    congr 1
    rcases hs with rfl | rfl
    · simp
    · have := add_or 63 1 (4503599627370496 + r) (by omega)
      simp at this
      rw [this]; omega
  have hpk := fun w => pack64_any s r w hs hr
  have hl11 := World.block_lt_of_cell? w _ h0
  obtain ⟨V, hV⟩ : ∃ V, V = 4503599627370496 + r := ⟨_, rfl⟩
  rw [← hV] at hl hor ⊢
  have hVb : V < 9007199254740992 := by omega
  have hsb : s ≤ 9223372036854775808 := by omega
  generalize s + 4503599627370496 + r = m at *
  generalize s + 4841369599423283200 + r = R at *
  have HL := hid hl
  have HPK := hid hpk
  have h01 := hid h0
  have h11 := hid h1
  clear hl hpk hs hr hV h0 h1
  have hmin : min (1074 : Int) 0 = 0 := by decide
  go_enter Tryz.func90, Tryz.ntmps90
  go_wp2_with (first | (go_at_call 136; refine (HL.out).mono ?_; rintro e w' ⟨rfl, rfl⟩) | (go_at_call 137; refine (log2Pow10_zero _).mono ?_; rintro e w' ⟨rfl, rfl⟩))
  have hbk : (w'.alloc (Obj.cells #[Value.int IntKind.u64 0, Value.int IntKind.u64 0, Value.int IntKind.i64 0] 213)).heap[w'.heap.size]? = some (.cells #[Value.int IntKind.u64 0, Value.int IntKind.u64 0, Value.int IntKind.i64 0] 213 (0, 0)) := heap_alloc_new w' _
  have hkA := (Kept.refl [] w').alloc (Obj.cells #[Value.int IntKind.u64 0, Value.int IntKind.u64 0, Value.int IntKind.i64 0] 213)
  have g0 := hkA.cellOf h01.out (by simp)
  have g1 := hkA.cellOf h11.out (by simp)
  refine (prescale_zero w'.heap.size _ hbk g0 g1 (by omega)).mono ?_
  rintro e w2 ⟨rfl, hb2, hk2⟩
  have HK2 := hid (hkA.trans hk2 (ds := []) (by simp) (by simp))
  have HB2 := hid hb2
  have e2 : w2.cell? ⟨w'.heap.size, 2, none⟩ = some (.int .i64 8) := (cell_of_heap hb2 2).trans rfl
  clear hbk hkA g0 g1 hb2 hk2 h01 h11 hmin
  go_wp2_with fail
  rw [show ((V : Int) * 2048) = ((2048 * V : Nat) : Int) by omega]
  refine (uscale_plain V w'.heap.size w2 hVb HB2.out).mono ?_
  rintro e w3 ⟨rfl, k, rfl⟩
  have HK3 := hid (HK2.out.drewN k)
  clear HB2 e2 HK2
  have hge : decide ((36028797018963966 : Int) ≤ 4 * V) = false := by simp; omega
  have hor2 : bits .or .u64 ((4 * V : Nat) : Int) 0 = ((4 * V : Nat) : Int) := by
    have := (bits_or_u64 (4 * V) 0 (by omega) (by omega)).1
    rw [Nat.or_zero] at this
    exact this
  have hand0 : bits .and .u64 ((4 * V : Nat) : Int) 1 = 0 := by
    have := bits_and_u64 (4 * V) 1 (by omega) (by omega)
    rw [Nat.and_one_is_mod, show 4 * V % 2 = 0 by omega] at this
    exact this
  have hr4 := fun w => round_four V w hVb
  have HR4 := hid hr4
  clear hr4
  obtain ⟨U, hU⟩ : ∃ U : Nat, U = 4 * V := ⟨_, rfl⟩
  rw [show (4 * (V : Int)) = (U : Int) by omega] at hge
  rw [← hU] at hor2 hand0 HR4 ⊢
  have hUb : U ≤ 36028797018963965 := by omega
  clear hU
  go_wp2_with (first | (go_at_call 141; refine (unmin_two53 _).mono ?_; rintro e w' ⟨rfl, rfl⟩) | (go_at_call 140; refine (bool2i_false _).mono ?_; rintro e w' ⟨rfl, rfl⟩) | (go_at_call 143; refine (HR4.out _).mono ?_; rintro e w' ⟨rfl, rfl⟩) | (go_at_call 146; refine (HPK.out _).mono ?_; rintro e w' ⟨rfl, rfl⟩))
  go_ret2
  exact ⟨rfl, HK3.out⟩
end Go.Proofs.YtofmickjbpkgbaaGreatDoor
