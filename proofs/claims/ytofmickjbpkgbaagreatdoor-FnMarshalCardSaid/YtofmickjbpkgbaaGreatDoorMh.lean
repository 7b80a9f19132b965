import Derived.Test.YtofmickjbpkgbaaGreatDoorMd
set_option maxRecDepth 100000
namespace Go.Proofs.YtofmickjbpkgbaaGreatDoor
section
open Go.RowKit

theorem sub_hi (x1 x0 D1 D0 r1 r0 : Nat) (h : x1 * 18446744073709551616 + x0 = 18446744073709551616 * D1 + D0 + (18446744073709551616 * r1 + r0)) (h0 : x0 < 18446744073709551616) (hD : D0 < 18446744073709551616) (hr0 : r0 < 18446744073709551616) (hr : r1 < 18446744073709551616) :
    (x1 + 18446744073709551616 - D1 - (if x0 < D0 then 1 else 0)) % 18446744073709551616 = r1 := by
  split
  · have : x1 = D1 + 1 + r1 := by omega
    subst this
    omega
  · have : x1 = D1 + r1 := by omega
    subst this
    omega

theorem q_bound (X qq P : Nat) (hX : X < 184467440737095516160000000000000000000) (hP : X = 10000000000000000000 * qq + P) (hb : P < 28000000000000000000) :
    ∃ q r, q = X / 10000000000000000000 ∧ r = X % 10000000000000000000 ∧ q < 18446744073709551616 ∧ ((P < 10000000000000000000 ∧ q = qq ∧ r = P) ∨ (10000000000000000000 ≤ P ∧ P < 20000000000000000000 ∧ q = qq + 1 ∧ r = P - 10000000000000000000) ∨ (20000000000000000000 ≤ P ∧ q = qq + 2 ∧ r = P - 20000000000000000000)) := by
  refine ⟨_, _, rfl, rfl, by omega, ?_⟩
  omega

theorem divWW_w1 (y rc x1 x0 A B S C C2 qq D1 D0 b b2 r0 : Nat) (w : World)
    (M0 : Hid (∀ w, Calls Tryz.prog 261 #[.int .u64 y] w fun e w' => e = .returned (.int .u64 0) ∧ w' = w))
    (M1 : Hid (∀ w, Calls Tryz.prog 263 #[.int .u64 rc, .int .u64 x1] w fun e w' => e = .returned (.tuple #[.int .u64 (A : Nat), .int .u64 (B : Nat)]) ∧ w' = w))
    (M2 : Hid (∀ w, Calls Tryz.prog 288 #[.int .u64 B, .int .u64 x0, .int .u64 0] w fun e w' => e = .returned (.tuple #[.int .u64 (S : Nat), .int .u64 (C : Nat)]) ∧ w' = w))
    (M3 : Hid (∀ w, Calls Tryz.prog 288 #[.int .u64 A, .int .u64 x1, .int .u64 C] w fun e w' => e = .returned (.tuple #[.int .u64 (qq : Nat), .int .u64 (C2 : Nat)]) ∧ w' = w))
    (M4 : Hid (∀ w, Calls Tryz.prog 263 #[.int .u64 y, .int .u64 qq] w fun e w' => e = .returned (.tuple #[.int .u64 (D1 : Nat), .int .u64 (D0 : Nat)]) ∧ w' = w))
    (M5 : Hid (∀ w, Calls Tryz.prog 290 #[.int .u64 x0, .int .u64 D0, .int .u64 0] w fun e w' => e = .returned (.tuple #[.int .u64 (r0 : Nat), .int .u64 (b : Nat)]) ∧ w' = w))
    (M6 : Hid (∀ w, Calls Tryz.prog 290 #[.int .u64 x1, .int .u64 D1, .int .u64 b] w fun e w' => e = .returned (.tuple #[.int .u64 0, .int .u64 (b2 : Nat)]) ∧ w' = w))
    (g1 : r0 < y) :
    Calls Tryz.prog 277 #[.int .u64 x1, .int .u64 x0, .int .u64 y, .int .u64 rc] w fun e w' => e = .returned (.tuple #[.int .u64 (qq : Nat), .int .u64 (r0 : Nat)]) ∧ w' = w := by
  go_enter Tryz.func277, Tryz.ntmps277
  go_wp2_with fail
  refine (M0.out _).mono ?_
  rintro e w' ⟨rfl, rfl⟩
  go_wp2_with fail
  refine (M1.out _).mono ?_
  rintro e w' ⟨rfl, rfl⟩
  go_wp2_with fail
  refine (M2.out _).mono ?_
  rintro e w' ⟨rfl, rfl⟩
  go_wp2_with fail
  refine (M3.out _).mono ?_
  rintro e w' ⟨rfl, rfl⟩
  go_wp2_with fail
  refine (M4.out _).mono ?_
  rintro e w' ⟨rfl, rfl⟩
  go_wp2_with fail
  refine (M5.out _).mono ?_
  rintro e w' ⟨rfl, rfl⟩
  go_wp2_with fail
  refine (M6.out _).mono ?_
  rintro e w' ⟨rfl, rfl⟩
  go_wp2
  go_ret2
  exact ⟨ret_ii (by first | rfl | omega | (simp; done) | (simp; omega)) (by first | rfl | omega | (simp; done) | (simp; omega)), rfl⟩

theorem divWW_w2 (y rc x1 x0 A B S C C2 qq D1 D0 b b2 r0 : Nat) (w : World)
    (M0 : Hid (∀ w, Calls Tryz.prog 261 #[.int .u64 y] w fun e w' => e = .returned (.int .u64 0) ∧ w' = w))
    (M1 : Hid (∀ w, Calls Tryz.prog 263 #[.int .u64 rc, .int .u64 x1] w fun e w' => e = .returned (.tuple #[.int .u64 (A : Nat), .int .u64 (B : Nat)]) ∧ w' = w))
    (M2 : Hid (∀ w, Calls Tryz.prog 288 #[.int .u64 B, .int .u64 x0, .int .u64 0] w fun e w' => e = .returned (.tuple #[.int .u64 (S : Nat), .int .u64 (C : Nat)]) ∧ w' = w))
    (M3 : Hid (∀ w, Calls Tryz.prog 288 #[.int .u64 A, .int .u64 x1, .int .u64 C] w fun e w' => e = .returned (.tuple #[.int .u64 (qq : Nat), .int .u64 (C2 : Nat)]) ∧ w' = w))
    (M4 : Hid (∀ w, Calls Tryz.prog 263 #[.int .u64 y, .int .u64 qq] w fun e w' => e = .returned (.tuple #[.int .u64 (D1 : Nat), .int .u64 (D0 : Nat)]) ∧ w' = w))
    (M5 : Hid (∀ w, Calls Tryz.prog 290 #[.int .u64 x0, .int .u64 D0, .int .u64 0] w fun e w' => e = .returned (.tuple #[.int .u64 (r0 : Nat), .int .u64 (b : Nat)]) ∧ w' = w))
    (M6 : Hid (∀ w, Calls Tryz.prog 290 #[.int .u64 x1, .int .u64 D1, .int .u64 b] w fun e w' => e = .returned (.tuple #[.int .u64 0, .int .u64 (b2 : Nat)]) ∧ w' = w))
    (g1 : y ≤ r0) (g3 : r0 < 18446744073709551616) (g2 : qq < 18446744073709551615) :
    Calls Tryz.prog 277 #[.int .u64 x1, .int .u64 x0, .int .u64 y, .int .u64 rc] w fun e w' => e = .returned (.tuple #[.int .u64 (qq + 1 : Nat), .int .u64 (r0 - y : Nat)]) ∧ w' = w := by
  go_enter Tryz.func277, Tryz.ntmps277
  go_wp2_with fail
  refine (M0.out _).mono ?_
  rintro e w' ⟨rfl, rfl⟩
  go_wp2_with fail
  refine (M1.out _).mono ?_
  rintro e w' ⟨rfl, rfl⟩
  go_wp2_with fail
  refine (M2.out _).mono ?_
  rintro e w' ⟨rfl, rfl⟩
  go_wp2_with fail
  refine (M3.out _).mono ?_
  rintro e w' ⟨rfl, rfl⟩
  go_wp2_with fail
  refine (M4.out _).mono ?_
  rintro e w' ⟨rfl, rfl⟩
  go_wp2_with fail
  refine (M5.out _).mono ?_
  rintro e w' ⟨rfl, rfl⟩
  go_wp2_with fail
  refine (M6.out _).mono ?_
  rintro e w' ⟨rfl, rfl⟩
  go_wp2
  go_ret2
  exact ⟨ret_ii (by first | rfl | omega | (simp; done) | (simp; omega)) (by first | rfl | omega | (simp; done) | (simp; omega)), rfl⟩

theorem divWW_w3 (y rc x1 x0 A B S C C2 qq D1 D0 b b2 r0 : Nat) (w : World)
    (M0 : Hid (∀ w, Calls Tryz.prog 261 #[.int .u64 y] w fun e w' => e = .returned (.int .u64 0) ∧ w' = w))
    (M1 : Hid (∀ w, Calls Tryz.prog 263 #[.int .u64 rc, .int .u64 x1] w fun e w' => e = .returned (.tuple #[.int .u64 (A : Nat), .int .u64 (B : Nat)]) ∧ w' = w))
    (M2 : Hid (∀ w, Calls Tryz.prog 288 #[.int .u64 B, .int .u64 x0, .int .u64 0] w fun e w' => e = .returned (.tuple #[.int .u64 (S : Nat), .int .u64 (C : Nat)]) ∧ w' = w))
    (M3 : Hid (∀ w, Calls Tryz.prog 288 #[.int .u64 A, .int .u64 x1, .int .u64 C] w fun e w' => e = .returned (.tuple #[.int .u64 (qq : Nat), .int .u64 (C2 : Nat)]) ∧ w' = w))
    (M4 : Hid (∀ w, Calls Tryz.prog 263 #[.int .u64 y, .int .u64 qq] w fun e w' => e = .returned (.tuple #[.int .u64 (D1 : Nat), .int .u64 (D0 : Nat)]) ∧ w' = w))
    (M5 : Hid (∀ w, Calls Tryz.prog 290 #[.int .u64 x0, .int .u64 D0, .int .u64 0] w fun e w' => e = .returned (.tuple #[.int .u64 (r0 : Nat), .int .u64 (b : Nat)]) ∧ w' = w))
    (M6 : Hid (∀ w, Calls Tryz.prog 290 #[.int .u64 x1, .int .u64 D1, .int .u64 b] w fun e w' => e = .returned (.tuple #[.int .u64 1, .int .u64 (b2 : Nat)]) ∧ w' = w))
    (z : Nat) (g0 : IntKind.u64.wrap ((r0 : Int) - (y : Int)) = z) (g1 : z < y) (g2 : qq < 18446744073709551615) :
    Calls Tryz.prog 277 #[.int .u64 x1, .int .u64 x0, .int .u64 y, .int .u64 rc] w fun e w' => e = .returned (.tuple #[.int .u64 (qq + 1 : Nat), .int .u64 (z : Nat)]) ∧ w' = w := by
  go_enter Tryz.func277, Tryz.ntmps277
  go_wp2_with fail
  refine (M0.out _).mono ?_
  rintro e w' ⟨rfl, rfl⟩
  go_wp2_with fail
  refine (M1.out _).mono ?_
  rintro e w' ⟨rfl, rfl⟩
  go_wp2_with fail
  refine (M2.out _).mono ?_
  rintro e w' ⟨rfl, rfl⟩
  go_wp2_with fail
  refine (M3.out _).mono ?_
  rintro e w' ⟨rfl, rfl⟩
  go_wp2_with fail
  refine (M4.out _).mono ?_
  rintro e w' ⟨rfl, rfl⟩
  go_wp2_with fail
  refine (M5.out _).mono ?_
  rintro e w' ⟨rfl, rfl⟩
  go_wp2_with fail
  refine (M6.out _).mono ?_
  rintro e w' ⟨rfl, rfl⟩
  go_wp2
  go_ret2
  exact ⟨ret_ii (by first | rfl | omega | (simp; done) | (simp; omega)) (by first | rfl | omega | (simp; done) | (simp; omega)), rfl⟩

theorem divWW_w4 (y rc x1 x0 A B S C C2 qq D1 D0 b b2 r0 : Nat) (w : World)
    (M0 : Hid (∀ w, Calls Tryz.prog 261 #[.int .u64 y] w fun e w' => e = .returned (.int .u64 0) ∧ w' = w))
    (M1 : Hid (∀ w, Calls Tryz.prog 263 #[.int .u64 rc, .int .u64 x1] w fun e w' => e = .returned (.tuple #[.int .u64 (A : Nat), .int .u64 (B : Nat)]) ∧ w' = w))
    (M2 : Hid (∀ w, Calls Tryz.prog 288 #[.int .u64 B, .int .u64 x0, .int .u64 0] w fun e w' => e = .returned (.tuple #[.int .u64 (S : Nat), .int .u64 (C : Nat)]) ∧ w' = w))
    (M3 : Hid (∀ w, Calls Tryz.prog 288 #[.int .u64 A, .int .u64 x1, .int .u64 C] w fun e w' => e = .returned (.tuple #[.int .u64 (qq : Nat), .int .u64 (C2 : Nat)]) ∧ w' = w))
    (M4 : Hid (∀ w, Calls Tryz.prog 263 #[.int .u64 y, .int .u64 qq] w fun e w' => e = .returned (.tuple #[.int .u64 (D1 : Nat), .int .u64 (D0 : Nat)]) ∧ w' = w))
    (M5 : Hid (∀ w, Calls Tryz.prog 290 #[.int .u64 x0, .int .u64 D0, .int .u64 0] w fun e w' => e = .returned (.tuple #[.int .u64 (r0 : Nat), .int .u64 (b : Nat)]) ∧ w' = w))
    (M6 : Hid (∀ w, Calls Tryz.prog 290 #[.int .u64 x1, .int .u64 D1, .int .u64 b] w fun e w' => e = .returned (.tuple #[.int .u64 1, .int .u64 (b2 : Nat)]) ∧ w' = w))
    (z : Nat) (g0 : IntKind.u64.wrap ((r0 : Int) - (y : Int)) = z) (g1 : y ≤ z) (g3 : z < 18446744073709551616) (g2 : qq < 18446744073709551614) :
    Calls Tryz.prog 277 #[.int .u64 x1, .int .u64 x0, .int .u64 y, .int .u64 rc] w fun e w' => e = .returned (.tuple #[.int .u64 (qq + 2 : Nat), .int .u64 (z - y : Nat)]) ∧ w' = w := by
  go_enter Tryz.func277, Tryz.ntmps277
  go_wp2_with fail
  refine (M0.out _).mono ?_
  rintro e w' ⟨rfl, rfl⟩
  go_wp2_with fail
  refine (M1.out _).mono ?_
  rintro e w' ⟨rfl, rfl⟩
  go_wp2_with fail
  refine (M2.out _).mono ?_
  rintro e w' ⟨rfl, rfl⟩
  go_wp2_with fail
  refine (M3.out _).mono ?_
  rintro e w' ⟨rfl, rfl⟩
  go_wp2_with fail
  refine (M4.out _).mono ?_
  rintro e w' ⟨rfl, rfl⟩
  go_wp2_with fail
  refine (M5.out _).mono ?_
  rintro e w' ⟨rfl, rfl⟩
  go_wp2_with fail
  refine (M6.out _).mono ?_
  rintro e w' ⟨rfl, rfl⟩
  go_wp2
  go_ret2
  exact ⟨ret_ii (by first | rfl | omega | (simp; done) | (simp; omega)) (by first | rfl | omega | (simp; done) | (simp; omega)), rfl⟩

set_option maxHeartbeats 1000000 in
theorem divWW_ten19 (x1 x0 : Nat) (w : World) (h1 : x1 < 10000000000000000000) (h0 : x0 < 18446744073709551616) :
    Calls Tryz.prog 277 #[.int .u64 x1, .int .u64 x0, .int .u64 10000000000000000000, .int .u64 15581492618384294730] w fun e w' =>
      e = .returned (.tuple #[.int .u64 ((x1 * 18446744073709551616 + x0) / 10000000000000000000 : Nat), .int .u64 ((x1 * 18446744073709551616 + x0) % 10000000000000000000 : Nat)]) ∧ w' = w := by
  obtain ⟨A, B, hA, hB, hm1⟩ : ∃ A B, 18446744073709551616 * A + B = 15581492618384294730 * x1 ∧ B < 18446744073709551616 ∧ ∀ w, Calls Tryz.prog 263 #[.int .u64 15581492618384294730, .int .u64 x1] w fun e w' => e = .returned (.tuple #[.int .u64 (A : Nat), .int .u64 (B : Nat)]) ∧ w' = w :=
    ⟨15581492618384294730 * x1 / 18446744073709551616, 15581492618384294730 * x1 % 18446744073709551616, Nat.div_add_mod _ _, Nat.mod_lt _ (by omega), fun w => bits_mul 15581492618384294730 x1 (by omega) (by omega) w⟩
  obtain ⟨S, C, hC, hC1, hm2⟩ : ∃ S C, C = (B + x0) / 18446744073709551616 ∧ C ≤ 1 ∧ ∀ w, Calls Tryz.prog 288 #[.int .u64 B, .int .u64 x0, .int .u64 0] w fun e w' => e = .returned (.tuple #[.int .u64 (S : Nat), .int .u64 (C : Nat)]) ∧ w' = w :=
    ⟨(B + x0 + 0) % 18446744073709551616, (B + x0 + 0) / 18446744073709551616, rfl, by omega, fun w => bits_add B x0 0 (by omega) w⟩
  obtain ⟨qq, hq⟩ : ∃ qq, qq = A + x1 + C := ⟨_, rfl⟩
  have hmm := divWW_math x1 x0 A B C qq h1 h0 hA hB hC hq
  obtain ⟨C2, hm3⟩ : ∃ C2 : Nat, ∀ w, Calls Tryz.prog 288 #[.int .u64 A, .int .u64 x1, .int .u64 C] w fun e w' => e = .returned (.tuple #[.int .u64 (qq : Nat), .int .u64 (C2 : Nat)]) ∧ w' = w := by
    refine ⟨qq / 18446744073709551616, fun w => ?_⟩
    have := bits_add A x1 C hC1 w
    rwa [Nat.mod_eq_of_lt (by omega), ← hq] at this
  obtain ⟨P, hP⟩ : ∃ P, x1 * 18446744073709551616 + x0 = 10000000000000000000 * qq + P := ⟨x1 * 18446744073709551616 + x0 - 10000000000000000000 * qq, by omega⟩
  have hPb : P < 28000000000000000000 := by omega
  obtain ⟨q, r, e1, e2, hqb, hcase⟩ := q_bound _ qq P (by omega) hP hPb
  obtain ⟨D1, D0, hD, hD0, hm4⟩ : ∃ D1 D0, 18446744073709551616 * D1 + D0 = 10000000000000000000 * qq ∧ D0 < 18446744073709551616 ∧ ∀ w, Calls Tryz.prog 263 #[.int .u64 10000000000000000000, .int .u64 qq] w fun e w' => e = .returned (.tuple #[.int .u64 (D1 : Nat), .int .u64 (D0 : Nat)]) ∧ w' = w :=
    ⟨10000000000000000000 * qq / 18446744073709551616, 10000000000000000000 * qq % 18446744073709551616, Nat.div_add_mod _ _, Nat.mod_lt _ (by omega), fun w => bits_mul 10000000000000000000 qq (by omega) (by omega) w⟩
  obtain ⟨b, hb1, hm5⟩ : ∃ b : Nat, b = (if x0 < D0 then 1 else 0) ∧ ∀ w, Calls Tryz.prog 290 #[.int .u64 x0, .int .u64 D0, .int .u64 0] w fun e w' => e = .returned (.tuple #[.int .u64 (P % 18446744073709551616 : Nat), .int .u64 (b : Nat)]) ∧ w' = w := by
    refine ⟨_, rfl, fun w => ?_⟩
    have := bits_sub x0 D0 0 (by omega) w
    rwa [show (x0 + 18446744073709551616 - D0 - 0) % 18446744073709551616 = P % 18446744073709551616 by omega] at this
  obtain ⟨r1, r0, hr, hr0, b2, hm6⟩ : ∃ r1 r0 : Nat, P = 18446744073709551616 * r1 + r0 ∧ r0 < 18446744073709551616 ∧ ∃ b2 : Nat, ∀ w, Calls Tryz.prog 290 #[.int .u64 x1, .int .u64 D1, .int .u64 b] w fun e w' => e = .returned (.tuple #[.int .u64 (r1 : Nat), .int .u64 (b2 : Nat)]) ∧ w' = w := by
    refine ⟨P / 18446744073709551616, P % 18446744073709551616, (Nat.div_add_mod _ _).symm, Nat.mod_lt _ (by omega), (if x1 < D1 + b then 1 else 0), fun w => ?_⟩
    have := bits_sub x1 D1 b (by rw [hb1]; split <;> omega) w
    have e3 : (x1 + 18446744073709551616 - D1 - b) % 18446744073709551616 = P / 18446744073709551616 := by
      rw [hb1]
      refine sub_hi x1 x0 D1 D0 _ (P % 18446744073709551616) ?_ h0 hD0 (Nat.mod_lt _ (by omega)) (by omega)
      rw [Nat.div_add_mod]
      omega
    rw [e3] at this
    exact this
  have hr0' : P % 18446744073709551616 = r0 := by omega
  rw [hr0'] at hm5
  have h4 : (r1 = 0 ∧ r0 < 10000000000000000000 ∧ q = qq ∧ r = r0) ∨ (r1 = 0 ∧ 10000000000000000000 ≤ r0 ∧ q = qq + 1 ∧ r0 = r + 10000000000000000000) ∨
      (r1 = 1 ∧ ∃ z : Nat, IntKind.u64.wrap ((r0 : Int) - 10000000000000000000) = z ∧ z < 10000000000000000000 ∧ q = qq + 1 ∧ r = z) ∨
      (r1 = 1 ∧ ∃ z : Nat, IntKind.u64.wrap ((r0 : Int) - 10000000000000000000) = z ∧ 10000000000000000000 ≤ z ∧ z < 18446744073709551616 ∧ q = qq + 2 ∧ z = r + 10000000000000000000) := by
    rcases (by omega : r1 = 0 ∨ r1 = 1) with rfl | rfl
    · rcases hcase with ⟨h1, h2, h3⟩ | ⟨h1, h2, h3, h4⟩ | ⟨h1, h2, h3⟩
      · exact .inl ⟨rfl, by omega, h2, by omega⟩
      · exact .inr (.inl ⟨rfl, by omega, h3, by omega⟩)
      · omega
    · have hw : IntKind.u64.wrap ((r0 : Int) - 10000000000000000000) = ((r0 + 8446744073709551616 : Nat) : Int) := by rw [IntKind.wrap_u64]; omega
      rcases hcase with ⟨h1, h2, h3⟩ | ⟨h1, h2, h3, h4⟩ | ⟨h1, h2, h3⟩
      · omega
      · exact .inr (.inr (.inl ⟨rfl, _, hw, by omega, h3, by omega⟩))
      · exact .inr (.inr (.inr ⟨rfl, _, hw, by omega, by omega, h2, by omega⟩))
  rw [← e1, ← e2]
  rcases h4 with ⟨rfl, g1, rfl, rfl⟩ | ⟨rfl, g1, rfl, g2⟩ | ⟨rfl, z, g0, g1, rfl, rfl⟩ | ⟨rfl, z, g0, g1, g2, rfl, g3⟩
  · exact divWW_w1 10000000000000000000 15581492618384294730 x1 x0 A B S C C2 _ D1 D0 b b2 _ w nlz_ten19 hm1 hm2 hm3 hm4 hm5 hm6 g1
  · have := divWW_w2 10000000000000000000 15581492618384294730 x1 x0 A B S C C2 _ D1 D0 b b2 _ w nlz_ten19 hm1 hm2 hm3 hm4 hm5 hm6 g1 hr0 (by omega)
    rwa [show r0 - 10000000000000000000 = r by omega] at this
  · exact divWW_w3 10000000000000000000 15581492618384294730 x1 x0 A B S C C2 _ D1 D0 b b2 _ w nlz_ten19 hm1 hm2 hm3 hm4 hm5 hm6 _ g0 g1 (by omega)
  · have := divWW_w4 10000000000000000000 15581492618384294730 x1 x0 A B S C C2 _ D1 D0 b b2 _ w nlz_ten19 hm1 hm2 hm3 hm4 hm5 hm6 _ g0 g1 g2 (by omega)
    rwa [show z - 10000000000000000000 = r by omega] at this
end

section
open Go.RowKit

theorem quot_lt (r x y : Nat) (hy : 0 < y) (hr : r < y) (hx : x < 18446744073709551616) : (r * 18446744073709551616 + x) / y < 18446744073709551616 := by
  rw [Nat.div_lt_iff_lt_mul hy]
  have h : (r + 1) * 18446744073709551616 ≤ y * 18446744073709551616 := Nat.mul_le_mul_right _ hr
  have h2 : (r + 1) * 18446744073709551616 = r * 18446744073709551616 + 18446744073709551616 := by rw [Nat.add_mul, Nat.one_mul]
  rw [Nat.mul_comm 18446744073709551616 y]
  omega

set_option maxHeartbeats 1000000 in
theorem divWVW_loop (g c n Y rc : Nat) (x : Nat → Nat) (w : World) (hn : 2 ≤ n) (hn2 : n ≤ 900000) (hc : n ≤ c) (hcc : c ≤ 9223372036854775807) (hY : 1 < Y)
    (hR : WRow w g c x n) (hx : ∀ j, j < n → x j < 18446744073709551616)
    (HRC : Hid (∀ w, Calls Tryz.prog 276 #[.int .u64 Y] w fun e w' => e = .returned (.int .u64 rc) ∧ w' = w))
    (HD : Hid (∀ x1 x0 w, x1 < Y → x0 < 18446744073709551616 → Calls Tryz.prog 277 #[.int .u64 (x1 : Nat), .int .u64 (x0 : Nat), .int .u64 Y, .int .u64 rc] w fun e w' => e = .returned (.tuple #[.int .u64 ((x1 * 18446744073709551616 + x0) / Y : Nat), .int .u64 ((x1 * 18446744073709551616 + x0) % Y : Nat)]) ∧ w' = w)) :
    Calls Tryz.prog 229 #[.slice (some ⟨g, 0, none⟩) n c, .int .u64 0, .slice (some ⟨g, 0, none⟩) n c, .int .u64 Y] w fun e w' =>
      ∃ (F : Nat → Nat) (r : Nat), e = .returned (.int .u64 r) ∧ r < Y ∧ WRow w' g c F n ∧ (∀ j, j < n → F j < 18446744073709551616) ∧ val F n * Y + r = val x n ∧ Kept [g] w w' := by
  have HX := hid hx
  have HR := hid hR
  clear hx hR
  go_enter Tryz.func229, Tryz.ntmps229
  go_wp2_with fail
  refine (HRC.out _).mono ?_
  rintro e w1 ⟨rfl, rfl⟩
  go_wp2
  go_loopw [8, 12] (fun rr i wr => ∃ (k r : Nat) (F : Nat → Nat), rr = .int .u64 r ∧ r < Y ∧ i = .int .i64 ((k : Int) - 1) ∧ k ≤ n ∧ Hid (WRow wr g c F n) ∧ Hid (∀ j, j < k → F j = x j) ∧ Hid (∀ j, j < n → F j < 18446744073709551616) ∧
      Hid (val (fun j => F (k + j)) (n - k) * Y + r = val (fun j => x (k + j)) (n - k)) ∧ Hid (Kept [g] w1 wr)) (fun _ i _ => (intOf i + 1).toNat)
  case atStart =>
    refine ⟨n, 0, x, rfl, by omega, rfl, Nat.le_refl _, HR.out, fun _ _ => rfl, HX.out, ?_, Kept.refl _ _⟩
    rw [Nat.sub_self]
    simp [Hid, val]
  case round =>
    obtain ⟨k, r, F, rfl, hr, rfl, hk, HF, HFX, HFB, HV, HK⟩ := hrel
    by_cases h0 : 0 < k
    · obtain ⟨i, rfl⟩ : ∃ i, k = i + 1 := ⟨k - 1, by omega⟩
      have ei : ((i + 1 : Nat) : Int) - 1 = (i : Int) := by omega
      rw [ei]
      have hci := HF.out.cell (j := i) (by omega)
      have hfi := HF.out.free i
      have hxi := HFB.out i (by omega)
      have hq := quot_lt r (F i) Y (by omega) hr hxi
      have hsum := Nat.div_add_mod (r * 18446744073709551616 + F i) Y
      have hrlt := Nat.mod_lt (r * 18446744073709551616 + F i) (show Y > 0 by omega)
      have H1 := hid (HD.out r (F i) wr hr hxi)
      generalize (r * 18446744073709551616 + F i) / Y = q at *
      generalize (r * 18446744073709551616 + F i) % Y = r' at *
      have HS := hid hsum
      clear hsum ei
      go_wp2_with fail
      refine (H1.out).mono ?_
      rintro e w2 ⟨rfl, rfl⟩
      go_wp2
      have hrow := hid (HF.out.store i (.int .u64 (q : Nat)) (f' := fun j => .int .u64 (upd F i q j : Nat)) (m := n) (by omega) (fun j hj => .inr hj) (fun _ => by rw [upd_self]) (fun j _ hj => by rw [upd_ne _ _ _ _ hj]))
      have hkk := hid (HK.out.setCell ⟨g, i, none⟩ (.int .u64 (q : Nat)) (.inl (by simp)))
      go_roundw
      case rel =>
        refine ⟨i, r', upd F i q, rfl, hrlt, by go_num, by omega, hrow.out, fun j hj => ?_, fun j hj => ?_, ?_, hkk⟩
        · rw [upd_ne _ _ _ _ (by omega)]; exact HFX.out j (by omega)
        · by_cases h : j = i
          · subst h; rw [upd_self]; exact hq
          · rw [upd_ne _ _ _ _ h]; exact HFB.out j hj
        · have hxF := HFX.out i (by omega)
          have := div_down (x := x) (z := F) (y := Y) (r := r) (r' := r') (zi := q) (i := i) (n := n) (by omega) HV.out (by rw [Nat.mul_comm q Y, HS.out, hxF])
          have e : val (fun j => upd F i q (i + j)) (n - i) = val (fun j => if j = 0 then q else F (i + j)) (n - i) := val_congr fun j hj => by
            unfold upd
            by_cases h : j = 0
            · simp [h]
            · rw [if_neg h, if_neg (by omega)]
          show val (fun j => upd F i q (i + j)) (n - i) * Y + r' = _
          rw [e]
          exact this
      case measure => simp [intOf]
    · obtain rfl : k = 0 := by omega
      have hv := HV.out
      simp only [Nat.zero_add, Nat.sub_zero] at hv
      have HV2 := hid hv
      clear hv
      go_wp2
      go_ret
      exact ⟨F, r, rfl, hr, HF.out, HFB.out, HV2.out, HK.out⟩

theorem divW_two (g c n Y rc : Nat) (x : Nat → Nat) (w : World) (hn : 2 ≤ n) (hn2 : n ≤ 900000) (hc : n ≤ c) (hcc : c ≤ 9223372036854775807) (hY : 1 < Y)
    (hR : WRow w g c x n) (hx : ∀ j, j < n → x j < 18446744073709551616)
    (HRC : Hid (∀ w, Calls Tryz.prog 276 #[.int .u64 Y] w fun e w' => e = .returned (.int .u64 rc) ∧ w' = w))
    (HD : Hid (∀ x1 x0 w, x1 < Y → x0 < 18446744073709551616 → Calls Tryz.prog 277 #[.int .u64 (x1 : Nat), .int .u64 (x0 : Nat), .int .u64 Y, .int .u64 rc] w fun e w' => e = .returned (.tuple #[.int .u64 ((x1 * 18446744073709551616 + x0) / Y : Nat), .int .u64 ((x1 * 18446744073709551616 + x0) % Y : Nat)]) ∧ w' = w)) :
    Calls Tryz.prog 190 #[.slice (some ⟨g, 0, none⟩) n c, .slice (some ⟨g, 0, none⟩) n c, .int .u64 Y] w fun e w' =>
      ∃ m y, m ≤ n ∧ e = .returned (.tuple #[.slice (some ⟨g, 0, none⟩) m c, .int .u64 (val x n % Y : Nat)]) ∧ WRow w' g c y m ∧ val y m = val x n / Y ∧ (∀ j, j < m → y j < 18446744073709551616) ∧ (m = 0 ∨ y (m - 1) ≠ 0) ∧ Kept [g] w w' := by
  have H1 := hid (divWVW_loop g c n Y rc x w hn hn2 hc hcc hY hR hx HRC HD)
  have hy0 : ((Y : Int) == 0) = false := by simp; omega
  have hy1 : ((Y : Int) == 1) = false := by simp; omega
  have hn0 : ((n : Int) == 0) = false := by simp; omega
  clear hR hx HRC HD
  go_enter Tryz.func190, Tryz.ntmps190
  go_wp2_with fail
  refine (make_reuse _ _ _ n _ hc (by omega)).mono ?_
  rintro e w' ⟨rfl, rfl⟩
  go_wp2_with fail
  refine (H1.out).mono ?_
  rintro e w1 ⟨F, r, rfl, hr, hF, hFB, hV, hk⟩
  have HF := hid hF
  have HFB := hid hFB
  have hdm : val F n = val x n / Y ∧ r = val x n % Y := by
    rw [← hV]
    constructor
    · rw [Nat.add_comm, Nat.add_mul_div_right _ _ (by omega), Nat.div_eq_of_lt hr, Nat.zero_add]
    · rw [Nat.add_comm, Nat.add_mul_mod_self_right, Nat.mod_eq_of_lt hr]
  have HDM := hid hdm
  clear hF hFB hV hdm H1
  go_wp2_with fail
  refine (norm_any g 0 n c F _ hc (by omega) (fun j hj => by rw [Nat.zero_add]; exact HF.out.cell hj)).mono ?_
  rintro e w2 ⟨m, hm, rfl, rfl⟩
  have HM := hid hm
  clear hm
  go_wp2
  go_ret2
  refine ⟨m, F, HM.out.1, by rw [HDM.out.2]; rfl, HF.out.congr HM.out.1 (fun _ _ => rfl), ?_, fun j hj => HFB.out j (by have := HM.out.1; omega), HM.out.2.1, hk⟩
  rw [← val_norm HM.out]
  exact HDM.out.1

theorem divOK_three : DivOK 3 := by
  intro n g c x w h1 hn hc hcc hR hx
  by_cases h : n = 1
  · subst h
    exact divOK_one 1 g c x w (by omega) (by omega) hc hcc hR hx
  · exact divW_two g c n 10000000000000000000 15581492618384294730 x w (by omega) (by omega) hc hcc (by omega) hR hx (fun w => reciprocal_ten19 w) (fun x1 x0 w k1 k0 => divWW_ten19 x1 x0 w k1 k0)
end

end Go.Proofs.YtofmickjbpkgbaaGreatDoor
