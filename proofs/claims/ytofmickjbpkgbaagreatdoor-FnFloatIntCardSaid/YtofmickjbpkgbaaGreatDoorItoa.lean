import Derived.Test.YtofmickjbpkgbaaGreatDoorLog2
import Derived.Defers
import Derived.Lib.SlBytesConst
namespace Go.Proofs.YtofmickjbpkgbaaGreatDoor
open Go.RowKit
set_option maxRecDepth 100000

/-- The quotient by which itoa reckons its buffer. -/
def bufQ (bl : Nat) : Nat := (floatBits .quo .f64 (floatOfInt .f64 (bl : Int)) 4614662735865160561).getD 0
def bufL (bl : Nat) : Nat := ((floatToIntVal .f64 (bufQ bl) .i64).getD 0).toNat

theorem buf_all : (List.range 193).all (fun bl => floatBits .quo .f64 (floatOfInt .f64 (bl : Int)) 4614662735865160561 == some (bufQ bl) && floatToIntVal .f64 (bufQ bl) .i64 == some ((bufL bl : Nat) : Int) && decide (bufL bl ≤ 57) && decide (2 ^ bl ≤ 10 ^ (bufL bl + 1))) = true := by kernel_rfl

theorem buf_at (bl : Nat) (h : bl ≤ 192) : floatBits .quo .f64 (floatOfInt .f64 (bl : Int)) 4614662735865160561 = some (bufQ bl) ∧ floatToIntVal .f64 (bufQ bl) .i64 = some ((bufL bl : Nat) : Int) ∧ bufL bl ≤ 57 ∧ 2 ^ bl ≤ 10 ^ (bufL bl + 1) := by
  have := List.all_eq_true.1 buf_all bl (List.mem_range.2 (by omega))
  simp only [Bool.and_eq_true, beq_iff_eq, decide_eq_true_eq] at this
  exact ⟨this.1.1.1, this.1.1.2, this.1.2, this.2⟩

theorem free_deferred (b : Nat) (u : FrameMode) (w : World) (h : w.cell? ⟨b, 0, none⟩ = some (.pointer none)) :
    CallsD Tryz.prog 125 #[.pointer (some ⟨b, 0, none⟩)] u w fun e u' w' => u' = u ∧ (e = .returned (.tuple #[]) ∧ w' = w) := by
  go_enter_d Tryz.func125, Tryz.ntmps125
  go_wp2
  go_end0
  exact ⟨rfl, rfl⟩


theorem lt_of_figs (V D : Nat) : ∀ d, V < 10 ^ (D + d) → (∀ k, D ≤ k → k < D + d → fig V k = 0) → V < 10 ^ D
  | 0, h, _ => h
  | d + 1, h, hf => by
    refine lt_of_figs V D d ?_ fun k h1 h2 => hf k h1 (by omega)
    have h0 := hf (D + d) (by omega) (by omega)
    unfold fig at h0
    have h1 : V / 10 ^ (D + d) < 10 := by
      rw [Nat.div_lt_iff_lt_mul (Nat.pow_pos (by omega))]
      rw [show D + (d + 1) = (D + d) + 1 by omega, Nat.pow_succ, Nat.mul_comm] at h
      exact h
    have h2 : V / 10 ^ (D + d) = 0 := by rw [Nat.mod_eq_of_lt h1] at h0; exact h0
    rcases Nat.div_eq_zero_iff.1 h2 with h3 | h3
    · have := Nat.pow_pos (n := D + d) (show 0 < 10 by omega); omega
    · exact h3

theorem le_of_fig (V k : Nat) (h : fig V k ≠ 0) : 10 ^ k ≤ V := by
  rcases Nat.lt_or_ge V (10 ^ k) with h1 | h1
  · unfold fig at h
    rw [Nat.div_eq_of_lt h1] at h
    exact absurd rfl h
  · exact h1

/-- What nat.itoa leaves: the figures of V, D of them, the first not 0 (but of 0 itself), in new memory. -/
def ItoaPost (V : Nat) (w : World) (e : Ending) (w' : World) : Prop :=
  ∃ g off D cap, e = .returned (.slice (some ⟨g, off, none⟩) D cap) ∧ 1 ≤ D ∧ D ≤ cap ∧ cap ≤ 1000 ∧ V < 10 ^ D ∧ (D = 1 ∨ 10 ^ (D - 1) ≤ V) ∧ w.heap.size ≤ g ∧
    (∀ k, k < D → w'.cell? ⟨g, off + k, none⟩ = some (.int .u8 (48 + fig V (D - 1 - k) : Nat))) ∧ Kept [] w w'

set_option maxHeartbeats 1000000 in
theorem itoa_zero (ao : Option Addr) (c : Nat) (w : World) : Calls Tryz.prog 75 #[.slice ao 0 c, .bool false, .int .i64 10] w (ItoaPost 0 w) := by
  have kc := fun (w : World) (C : Array Value) (n c : Nat) => Lib.run_convert_bytes_const (P := Tryz.prog) w 40 5 C n c Tryz.underlying40 Tryz.underlying5
  go_enter_defers Tryz.func75, Tryz.ntmps75
  go_wp2
  refine ⟨_, results_tmp rfl _ _ _, w.heap.size, 0, 1, 1, rfl, by omega, by omega, by omega, by decide, .inl rfl, Nat.le_refl _, ?_, (Kept.refl [] w).alloc _⟩
  intro k hk
  obtain rfl : k = 0 := by omega
  exact World.cell?_alloc_mark w _ _ _ _

set_option maxHeartbeats 4000000 in
theorem itoa_pos (N : Nat) (D : DivOK N) (g n c : Nat) (x : Nat → Nat) (w : World) (h0 : 0 < n) (hn : n ≤ N) (h3 : n ≤ 3) (hc : n ≤ c) (hcc : c ≤ 9223372036854775807) (hR : WRow w g c x n) (hx : ∀ j, j < n → x j < 18446744073709551616) (hnz : x (n - 1) ≠ 0) (hG : w.cell? ⟨10, 0, none⟩ = some (.int .i64 8)) :
    Calls Tryz.prog 75 #[.slice (some ⟨g, 0, none⟩) n c, .bool false, .int .i64 10] w (ItoaPost (val x n) w) := by
  obtain ⟨i5, hi5, hz50, hz51, hz52⟩ := info_parts Tryz.info5
  have f10 : floatOfInt .f64 10 = 4621819117588971520 := by kernel_rfl
  have HX := hid hx
  have HNZ := hid hnz
  clear hx hnz
  go_enter_defers Tryz.func75, Tryz.ntmps75
  go_wp2_with fail
  refine (bitLen_any 0 n _ x w (by omega) (.inr ⟨g, c, rfl, by omega, hc, hcc, hR⟩) HX.out (.inr HNZ.out)).mono ?_
  rintro e w' ⟨bl, rfl, hbl, hbl2, hvb, rfl⟩
  obtain ⟨b1, b2, b3, b4⟩ := buf_at bl (by omega)
  have HVB := hid hvb
  have HB4 := hid b4
  have q1 : ∀ w, (binOp .quo 49 (.float .f64 (floatOfInt .f64 (bl : Int))) (.float .f64 4614662735865160561)).run Tryz.prog w = .ok (.float .f64 (bufQ bl)) w := fun w => run_float_arith w .quo 49 .f64 _ _ _ b1
  have q2 : ∀ w, (convert 49 3 (.float .f64 (bufQ bl))).run Tryz.prog w = .ok (.int .i64 (bufL bl : Nat)) w := fun w => run_convert_float_int w 49 3 .f64 .i64 _ _ (by kernel_rfl) Tryz.underlying3 b2
  clear b1 b2 hbl2 hvb b4
  generalize bufL bl = L0 at *
  generalize bufQ bl = Q0 at *
  go_wp2_with fail
  refine (log2_ten' _).mono ?_
  rintro e w' ⟨rfl, rfl⟩
  go_wp2_with (at_make; refine wpList_make_any _ rfl _ _ 40 rfl 5 i5 (.int .u8 0) 1 Tryz.underlying40 hi5 hz50 hz51 hz52 rfl .i64 .i64 _ _ (L0 + 1) (L0 + 1) rfl rfl (by omega) (by omega) (by omega) (by omega) (by omega) ?_)
  have hVp := val_pos x n h0 HNZ.out
  have hVL : val x n < 10 ^ (L0 + 1) := Nat.lt_of_lt_of_le HVB.out HB4.out
  have hlt := hR.lt
  have hl10 := World.block_lt_of_cell? w' _ hG
  refine (getStack_any _).mono ?_
  rintro e w2 ⟨rfl, rfl⟩
  have hR2 := (hR.alloc (.cells (reps (.int .u8 0) (L0 + 1)) 5)).alloc (.cells #[.pointer none] 247)
  have hS2 := (Row.made w' (.int .u8 0) (L0 + 1) 5).alloc (.cells #[.pointer none] 247)
  have hK2 := ((Kept.refl [] w').alloc (.cells (reps (.int .u8 0) (L0 + 1)) 5)).alloc (.cells #[.pointer none] 247)
  have hst2 : ((w'.alloc (.cells (reps (.int .u8 0) (L0 + 1)) 5)).alloc (.cells #[.pointer none] 247)).cell? ⟨w'.heap.size + 1, 0, none⟩ = some (.pointer none) := by
    have := cell_of_heap (heap_alloc_new (w'.alloc (.cells (reps (.int .u8 0) (L0 + 1)) 5)) (.cells #[.pointer none] 247)) 0
    rw [World.size_alloc] at this
    exact this
  have hG2 := hK2.cellOf hG (by simp)
  have hz2 : ((w'.alloc (.cells (reps (.int .u8 0) (L0 + 1)) 5)).alloc (.cells #[.pointer none] 247)).heap.size = w'.heap.size + 2 := by simp
  have HVP := hid hVp
  have HVL := hid hVL
  have HR2 := hid hR2
  have HS2 := hid hS2
  have HK2 := hid hK2
  have HST := hid hst2
  have HG2 := hid hG2
  simp only [World.size_alloc]
  generalize hW2 : (w'.alloc (.cells (reps (.int .u8 0) (L0 + 1)) 5)).alloc (.cells #[.pointer none] 247) = W2 at *
  clear hR hG hVp hVL hR2 hS2 hK2 hst2 hG2 hW2
  go_wp2_with (first | (go_at_call 126; refine (maxPow_ten _).mono ?_; rintro e w3 ⟨rfl, rfl⟩) | (go_at_call 127; refine (divisors_small _ n _ _ _ _ (by omega) HG2.out).mono ?_; rintro e w3 ⟨rfl, rfl⟩))
  refine (set_pos none 0 n c _ g x w3 h0 (by omega) hc hcc HR2.out).mono ?_
  rintro e w4 ⟨c4, hc4, hc4', rfl, hr4, hk4⟩
  have HZ2 := hid hz2
  clear hz2
  have hS4 := HS2.out.kept hk4 (by simp)
  have HK4 := hid (HK2.out.then hk4)
  have HST4 := hid (hk4.cellOf HST.out (by simp))
  clear HR2 HS2 HK2 HST HG2
  go_wp2_with fail
  refine (convertWords_any N D (val x n) w3.heap.size c4 w'.heap.size (L0 + 1) (L0 + 1) n x _ _ w4 (by have := HZ2.out; omega) hn hc4 (by omega) (by omega) (Nat.le_refl _) hr4 HX.out (.inr HNZ.out) rfl HVL.out hS4).mono ?_
  rintro e w5 ⟨rfl, hS5, hk5⟩
  have HST5 := hid (hk5.cellOf HST4.out (by have := HZ2.out; simp; omega))
  have HK5 := hid (HK4.out.trans hk5 (by simp) (by have := HZ2.out; simp; omega) : Kept [] w' w5)
  have hS4 := hS5
  have hcell : ∀ j, j < L0 + 1 → w5.cell? ⟨w'.heap.size, j, none⟩ = some (.int .u8 (48 + (fig (val x n) (L0 + 1 - 1 - j) : Int))) := fun j hj => by
    have := hS5.cell hj
    rw [Int.natCast_add] at this
    exact this
  have HCL := hid hcell
  clear HK4 HST4 hcell hS4
  go_wp2
  go_loop [7] (fun i => ∃ j : Nat, i = .int .i64 j ∧ j ≤ L0 + 1 ∧ Hid (∀ m, m < j → fig (val x n) (L0 + 1 - 1 - m) = 0)) (fun i => L0 + 1 - (intOf i).toNat)
  case atStart => exact ⟨0, rfl, by omega, fun m hm => by omega⟩
  case round =>
    obtain ⟨j, rfl, hj, HZ⟩ := hrel
    have hjl : j < L0 + 1 := by
      rcases Nat.lt_or_ge j (L0 + 1) with h | h
      · exact h
      · exfalso
        have := lt_of_figs (val x n) 0 (L0 + 1) (by simpa using HVL.out) (fun k h1 h2 => by
          have := HZ.out (L0 - k) (by omega)
          rwa [show L0 + 1 - 1 - (L0 - k) = k by omega] at this)
        have := HVP.out
        omega
    have hcj := HCL.out j hjl
    go_wp2
    · have h : ((48 + fig (val x n) (L0 + 1 - 1 - j) : Int) == 48) = true := by assumption
      go_round
      case rel =>
        refine ⟨j + 1, by go_num, by omega, fun m hm => ?_⟩
        rcases Nat.lt_or_ge m j with h1 | h1
        · exact HZ.out m h1
        · obtain rfl : m = j := by omega
          have := eq_of_beq h
          omega
      case measure => simp [intOf]; omega
    · have h : ((48 + fig (val x n) (L0 + 1 - 1 - j) : Int) == 48) = false := by assumption
      refine leaves_cons (f := 125) (args := #[.pointer (some ⟨w'.heap.size + 1, 0, none⟩)]) (by simp) (by simp [go_sem]) ?_
      refine (free_deferred _ _ _ HST5.out).mono ?_
      rintro e u w6 ⟨rfl, rfl, rfl⟩
      refine ⟨_, results_tmp rfl _ _ _, w'.heap.size, j, L0 + 1 - j, L0 + 1 - j, by go_num, by omega, by omega, by omega, ?_, ?_, Nat.le_refl _, ?_, HK5.out⟩
      · refine lt_of_figs _ _ j (by rw [show L0 + 1 - j + j = L0 + 1 by omega]; exact HVL.out) fun k h1 h2 => ?_
        have := HZ.out (L0 - k) (by omega)
        rwa [show L0 + 1 - 1 - (L0 - k) = k by omega] at this
      · right
        rw [show L0 + 1 - j - 1 = L0 + 1 - 1 - j by omega]
        refine le_of_fig _ _ fun h1 => ?_
        rw [h1] at h
        cases h
      · intro k hk
        have := HCL.out (j + k) (by omega)
        rw [this, Int.natCast_add, show L0 + 1 - 1 - (j + k) = L0 + 1 - j - 1 - k by omega]
        rfl
end Go.Proofs.YtofmickjbpkgbaaGreatDoor
