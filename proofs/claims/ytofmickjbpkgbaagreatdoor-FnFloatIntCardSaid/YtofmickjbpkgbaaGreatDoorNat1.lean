import Derived.Test.YtofmickjbpkgbaaGreatDoorBase
namespace Go.Proofs.YtofmickjbpkgbaaGreatDoor
open Go.RowKit
set_option maxRecDepth 100000

def NormAt (x : Nat → Nat) (l n : Nat) : Prop := n ≤ l ∧ (n = 0 ∨ x (n - 1) ≠ 0) ∧ ∀ j, n ≤ j → j < l → x j = 0

theorem norm_any (b off l c : Nat) (x : Nat → Nat) (w : World) (hl : l ≤ c) (hc : c ≤ 9223372036854775807)
    (hcell : ∀ j, j < l → w.cell? ⟨b, off + j, none⟩ = some (.int .u64 (x j))) :
    Calls Tryz.prog 46 #[.slice (some ⟨b, off, none⟩) l c] w fun e w' => ∃ n, NormAt x l n ∧ e = .returned (.slice (some ⟨b, off, none⟩) n c) ∧ w' = w := by
  go_enter Tryz.func46, Tryz.ntmps46
  go_wp2
  go_loop [3] (fun v => ∃ i : Nat, i ≤ l ∧ v = .int .i64 i ∧ Hid (∀ j, i ≤ j → j < l → x j = 0)) (fun v => (intOf v).toNat)
  case atStart => exact ⟨l, Nat.le_refl _, rfl, fun j _ _ => by omega⟩
  case round =>
    obtain ⟨i, hi, rfl, HZ⟩ := hrel
    by_cases h0 : 0 < i
    · have hci := hcell (i - 1) (by omega)
      go_wp2
      · have h : ((x (i - 1) : Int) == 0) = true := by assumption
        go_round
        case rel => exact ⟨i - 1, by omega, by go_num, fun j hj hl => by
          by_cases e : j = i - 1
          · subst e; simpa using h
          · exact HZ.out j (by omega) hl⟩
        case measure => simp [intOf]; omega
      · have h : ((x (i - 1) : Int) == 0) = false := by assumption
        go_ret
        exact ⟨i, ⟨hi, Or.inr (by simpa using h), HZ.out⟩, rfl, rfl⟩
    · obtain rfl : i = 0 := by omega
      go_wp2
      go_ret
      exact ⟨0, ⟨hi, Or.inl rfl, HZ.out⟩, rfl, rfl⟩

theorem norm_empty (ao : Option Addr) (c : Nat) (w : World) (hc : c ≤ 9223372036854775807) :
    Calls Tryz.prog 46 #[.slice ao 0 c] w fun e w' => e = .returned (.slice ao 0 c) ∧ w' = w := by
  go_enter Tryz.func46, Tryz.ntmps46
  go_wp2
  refine wp_loop_rounds 1 ?_; rw [rounds_succ]
  go_wp2
  go_ret
  exact ⟨rfl, rfl⟩

theorem make_reuse (ao : Option Addr) (l c n : Nat) (w : World) (h : n ≤ c) (hc : c ≤ 9223372036854775807) :
    Calls Tryz.prog 58 #[.slice ao l c, .int .i64 n] w fun e w' => e = .returned (.slice ao n c) ∧ w' = w := by
  go_enter Tryz.func58, Tryz.ntmps58
  go_wp2
  go_ret
  exact ⟨rfl, rfl⟩

theorem make_one (ao : Option Addr) (l : Nat) (w : World) :
    Calls Tryz.prog 58 #[.slice ao l 0, .int .i64 1] w fun e w' => e = .returned (.slice (some ⟨w.heap.size, 0, none⟩) 1 1) ∧ w' = w.alloc (.cells (reps (.int .u64 0) 1) 88) := by
  obtain ⟨i0, hi, hz0, hz1, hz2⟩ := info_parts Tryz.info88
  go_enter Tryz.func58, Tryz.ntmps58
  go_wp2_with (at_make; refine wpList_make_any _ rfl _ _ 63 rfl 88 i0 (.int .u64 0) 8 Tryz.underlying63 hi hz0 hz1 hz2 rfl .i64 .i64 _ _ 1 1 rfl rfl rfl rfl (by omega) (by omega) (by omega) ?_)
  go_ret
  exact ⟨rfl, rfl⟩

theorem make_new (ao : Option Addr) (l c n : Nat) (w : World) (h : c < n) (h2 : n ≠ 1) (hn : n ≤ 900000) :
    Calls Tryz.prog 58 #[.slice ao l c, .int .i64 n] w fun e w' => e = .returned (.slice (some ⟨w.heap.size, 0, none⟩) n (n + 4 : Nat)) ∧ w' = w.alloc (.cells (reps (.int .u64 0) (n + 4)) 88) := by
  have h1 : ((n : Int) == 1) = false := by simpa using (by omega : ¬ (n : Int) = 1)
  obtain ⟨i0, hi, hz0, hz1, hz2⟩ := info_parts Tryz.info88
  go_enter Tryz.func58, Tryz.ntmps58
  go_wp2_with (at_make; refine wpList_make_any _ rfl _ _ 63 rfl 88 i0 (.int .u64 0) 8 Tryz.underlying63 hi hz0 hz1 hz2 rfl .i64 .i64 _ _ n (n + 4) rfl rfl rfl rfl (by omega) (by omega) (by omega) ?_)
  go_ret
  exact ⟨rfl, rfl⟩

/-- nat.make(n): n words at the head of a row of at least n; a new row, or z's own. -/
theorem make_any (ao : Option Addr) (l c n : Nat) (w : World) (h : c < n) (hn : n ≤ 900000) :
    Calls Tryz.prog 58 #[.slice ao l c, .int .i64 n] w fun e w' => ∃ m, n ≤ m ∧ m ≤ n + 4 ∧ e = .returned (.slice (some ⟨w.heap.size, 0, none⟩) n m) ∧ w' = w.alloc (.cells (reps (.int .u64 0) m) 88) := by
  by_cases h2 : n = 1
  · subst h2
    obtain rfl : c = 0 := by omega
    exact (make_one ao l w).mono fun e w' ⟨h1, h2⟩ => ⟨1, by omega, by omega, h1, h2⟩
  · exact (make_new ao l c n w h h2 hn).mono fun e w' ⟨h1, h2⟩ => ⟨n + 4, by omega, by omega, h1, h2⟩


/-- nat.set of what has a word, onto nil. -/
theorem set_pos (ao : Option Addr) (l n c m g : Nat) (x : Nat → Nat) (w : World) (h0 : 0 < n) (hn : n ≤ 900000) (hc : n ≤ c) (hcc : c ≤ 9223372036854775807) (hx : WRow w g m x n) :
    Calls Tryz.prog 45 #[.slice ao l 0, .slice (some ⟨g, 0, none⟩) n c] w fun e w' =>
      ∃ c', n ≤ c' ∧ c' ≤ n + 4 ∧ e = .returned (.slice (some ⟨w.heap.size, 0, none⟩) n c') ∧ WRow w' w.heap.size c' x n ∧ Kept [] w w' := by
  go_enter Tryz.func45, Tryz.ntmps45
  go_wp2_with fail
  refine (make_any _ _ _ n _ (by omega) hn).mono ?_
  rintro e w' ⟨m', h1, h2, rfl, rfl⟩
  have hR := Row.made w (.int .u64 0) m' 88
  have HS : Hid (∀ j, j < n → (w.alloc (.cells (reps (.int .u64 0) m') 88)).cell? ((⟨g, 0, none⟩ : Addr).add j) = some (.int .u64 (x j : Nat))) := by
    intro j hj
    have := (hx.alloc (.cells (reps (.int .u64 0) m') 88)).cell hj
    rw [Addr.add_lit, Nat.zero_add]
    exact this
  go_wp2_with (with_reducible refine wpList_copy_row rfl (.tmp 9) (.tmp 10) 63 63 rfl 88 Tryz.underlying63 Tryz.size88 w.heap.size n m' ⟨g, 0, none⟩ n c rfl rfl 88 m' m' n (fun _ => .int .u64 0) (fun j => .int .u64 (x j : Nat)) hR (Nat.min_self n) h1 HS.out (fun _ _ => rfl) ?_)
  intro w2 HR2 hk
  go_wp2
  go_ret
  exact ⟨m', h1, h2, rfl, HR2.out, ((Kept.refl [] w).alloc _).trans hk (by simp) (by simp)⟩

theorem set_zero (ao : Option Addr) (c : Nat) (w : World) (hc : c ≤ 9223372036854775807) :
    Calls Tryz.prog 45 #[.slice none 0 0, .slice ao 0 c] w fun e w' => e = .returned (.slice none 0 0) ∧ w' = w := by
  go_enter Tryz.func45, Tryz.ntmps45
  go_wp2_with fail
  refine (make_reuse _ _ _ 0 _ (by omega) (by omega)).mono ?_
  rintro e w' ⟨rfl, rfl⟩
  go_wp2_with (with_reducible refine wpList_copy_nothing rfl (.tmp 9) (.tmp 10) 63 63 rfl 88 Tryz.underlying63 Tryz.size88 none ao 0 0 0 c rfl rfl rfl ?_)
  go_ret
  exact ⟨rfl, rfl⟩

/-- nat.set onto nil: a copy in a new row. -/
theorem set_any (v : Value) (n : Nat) (x : Nat → Nat) (w : World) (hn : n ≤ 900000) (hx : NatV 0 w v n x) :
    Calls Tryz.prog 45 #[.slice none 0 0, v] w fun e w' => ∃ v', e = .returned v' ∧ NatV w.heap.size w' v' n x ∧ Kept [] w w' := by
  rcases hx with ⟨rfl, rfl⟩ | ⟨g, c, rfl, _, hnc, hc, hR⟩
  · exact (set_zero none 0 w (by omega)).mono fun e w' ⟨h1, h2⟩ => ⟨_, h1, .inl ⟨rfl, rfl⟩, by subst h2; exact Kept.refl _ _⟩
  · by_cases h0 : n = 0
    · subst h0
      exact (set_zero _ c w hc).mono fun e w' ⟨h1, h2⟩ => ⟨_, h1, .inl ⟨rfl, rfl⟩, by subst h2; exact Kept.refl _ _⟩
    · exact (set_pos none 0 n c c g x w (by omega) hn hnc hc hR).mono fun e w' ⟨c', h1, h2, h3, h4, h5⟩ =>
        ⟨_, h3, .inr ⟨_, c', rfl, Nat.le_refl _, h1, by omega, h4⟩, h5⟩

end Go.Proofs.YtofmickjbpkgbaaGreatDoor
