import Derived.Test.YtofmickjbpkgbaaGreatDoorMade
namespace Go.Proofs.YtofmickjbpkgbaaGreatDoor
open Go.RowKit
set_option maxRecDepth 100000

theorem ret_ii {k1 k2 : IntKind} {a b c d : Int} (h1 : a = c) (h2 : b = d) : Ending.returned (.tuple #[.int k1 a, .int k2 b]) = .returned (.tuple #[.int k1 c, .int k2 d]) := by rw [h1, h2]
theorem ret_i {k1 : IntKind} {a c : Int} (h1 : a = c) : Ending.returned (.int k1 a) = .returned (.int k1 c) := by rw [h1]
theorem u64_id {a : Int} {n : Nat} (h : a = n) (hn : n ≤ 18446744073709551615) : IntKind.u64.wrap a = n := by subst h; exact IntWalk.u64_in _ (by omega)

theorem bitsDiv64_lo (x y : Nat) (w : World) (hx : x ≤ 18446744073709551615) (hy : 1 ≤ y) (hy2 : y ≤ 18446744073709551615) :
    Calls Tryz.prog 316 #[.int .u64 0, .int .u64 x, .int .u64 y] w fun e w' => e = .returned (.tuple #[.int .u64 (x / y : Nat), .int .u64 (x % y : Nat)]) ∧ ∃ k, w' = w.drewN k := by
  have h0 : ((y : Int) == 0) = false := by simp; omega
  have h1 : (0 : Int) < y := by omega
  go_enter Tryz.func316, Tryz.ntmps316
  go_wp2
  go_quiet (fail)
  go_wp2
  go_ret2
  exact ⟨ret_ii (u64_id (by simp) (Nat.le_trans (Nat.div_le_self _ _) hx)) (by simp), _, rfl⟩

theorem bitsDiv_lo (x y : Nat) (w : World) (hx : x ≤ 18446744073709551615) (hy : 1 ≤ y) (hy2 : y ≤ 18446744073709551615) :
    Calls Tryz.prog 275 #[.int .u64 0, .int .u64 x, .int .u64 y] w fun e w' => e = .returned (.tuple #[.int .u64 (x / y : Nat), .int .u64 (x % y : Nat)]) ∧ ∃ k, w' = w.drewN k := by
  go_enter Tryz.func275, Tryz.ntmps275
  go_wp2_with fail
  refine (bitsDiv64_lo x y w hx hy hy2).mono ?_
  rintro e w' ⟨rfl, k, rfl⟩
  go_wp2
  go_ret2
  exact ⟨ret_ii (by simp) (by simp), k, rfl⟩

theorem divWVW_one (g c : Nat) (x y : Nat) (w : World) (hx : x ≤ 18446744073709551615) (hy : 1 ≤ y) (hy2 : y ≤ 18446744073709551615) (h1 : 1 ≤ c)
    (hc : w.cell? ⟨g, 0, none⟩ = some (.int .u64 (x : Nat))) (hf : w.frozen? ⟨g, 0, none⟩ = false) :
    Calls Tryz.prog 229 #[.slice (some ⟨g, 0, none⟩) 1 c, .int .u64 0, .slice (some ⟨g, 0, none⟩) 1 c, .int .u64 y] w fun e w' =>
      e = .returned (.int .u64 (x % y : Nat)) ∧ ∃ k, w' = (w.setCell ⟨g, 0, none⟩ (.int .u64 (x / y : Nat))).drewN k := by
  go_enter Tryz.func229, Tryz.ntmps229
  go_wp2_with fail
  refine (bitsDiv_lo x y _ hx hy hy2).mono ?_
  rintro e w' ⟨rfl, k, rfl⟩
  go_wp2
  go_ret
  exact ⟨ret_i (by simp), k, rfl⟩

/-- The number of the words x 0, .., x (n - 1), the lowest first. -/
def val (x : Nat → Nat) : Nat → Nat
  | 0 => 0
  | n + 1 => val x n + x n * 2 ^ (64 * n)

/-- What nat.divW by 10^19 in place does to a number of at most N words. -/
def DivOK (N : Nat) : Prop := ∀ (n g c : Nat) (x : Nat → Nat) (w : World), 1 ≤ n → n ≤ N → n ≤ c → c ≤ 9223372036854775807 → WRow w g c x n → (∀ j, j < n → x j < 18446744073709551616) →
  Calls Tryz.prog 190 #[.slice (some ⟨g, 0, none⟩) n c, .slice (some ⟨g, 0, none⟩) n c, .int .u64 10000000000000000000] w fun e w' =>
    ∃ m y, m ≤ n ∧ e = .returned (.tuple #[.slice (some ⟨g, 0, none⟩) m c, .int .u64 (val x n % 10000000000000000000 : Nat)]) ∧ WRow w' g c y m ∧ val y m = val x n / 10000000000000000000 ∧
      (∀ j, j < m → y j < 18446744073709551616) ∧ (m = 0 ∨ y (m - 1) ≠ 0) ∧ Kept [g] w w'

theorem val_one (x : Nat → Nat) : val x 1 = x 0 := by simp [val]

theorem divOK_one : DivOK 1 := by
  intro n g c x w h1 hn hc hcc hR hx
  obtain rfl : n = 1 := by omega
  have hx0 := hx 0 (by omega)
  have c0 := hR.cell (j := 0) (by omega)
  have f0 := hR.free 0
  have hw := hR.store 0 (.int .u64 (x 0 / 10000000000000000000 : Nat)) (f' := fun _ => .int .u64 (x 0 / 10000000000000000000 : Nat)) (m := 1) (by omega) (by omega) (fun _ => rfl) (fun i h1 h2 => by omega)
  have HW := hid hw
  have HX := hid hx
  clear hw hx
  go_enter Tryz.func190, Tryz.ntmps190
  go_wp2_with fail
  refine (make_reuse _ _ _ 1 _ hc (by omega)).mono ?_
  rintro e w' ⟨rfl, rfl⟩
  go_wp2_with fail
  refine (divWVW_one g c (x 0) 10000000000000000000 _ (by omega) (by omega) (by omega) hc c0 f0).mono ?_
  rintro e w' ⟨rfl, k, rfl⟩
  go_wp2_with fail
  refine (norm_any g 0 1 c (fun _ => x 0 / 10000000000000000000) _ hc (by omega) (fun j hj => by rw [Nat.zero_add]; exact (HW.out.cell (j := j) (by omega)))).mono ?_
  rintro e w' ⟨m, hm, rfl, rfl⟩
  go_wp2
  go_ret2
  refine ⟨m, fun _ => x 0 / 10000000000000000000, hm.1, by rw [val_one]; rfl, HW.out.congr hm.1 (fun _ _ => rfl), ?_, fun j _ => by have := Nat.div_le_self (x 0) 10000000000000000000; show x 0 / 10000000000000000000 < _; omega, hm.2.1, ?_⟩
  · rw [val_one]
    have h2 := hm.1
    have h3 := hm.2.2
    match m, h2, h3 with
    | 0, _, h3 => have := h3 0 (by omega) (by omega); simp [val, this]
    | 1, _, _ => simp [val]
  · exact ((Kept.refl [g] _).setCell ⟨g, 0, none⟩ _ (.inl (by simp))).drewN k
end Go.Proofs.YtofmickjbpkgbaaGreatDoor
