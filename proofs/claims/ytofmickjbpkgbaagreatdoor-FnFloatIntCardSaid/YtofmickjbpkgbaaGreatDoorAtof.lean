import Derived.Test.YtofmickjbpkgbaaGreatDoorExact
namespace Go.Proofs.YtofmickjbpkgbaaGreatDoor
open Go.RowKit
set_option maxRecDepth 100000

theorem strC_at (n : Nat) (c : Nat → Nat) (j : Nat) (h : j < (strC n c).size) (hc : c j < 256) : ((strC n c)[j]'h).toNat = c j := by
  have hn : j < n := by rwa [strC_size] at h
  have h1 := strC_get n c j hn
  have h2 : (strC n c).data[j]? = some ((strC n c)[j]'h) := by
    rw [Array.getElem?_eq_some_iff]
    exact ⟨h, rfl⟩
  rw [h2] at h1
  injection h1 with h1
  rw [h1]
  simp
  omega

theorem decStr_size (neg : Bool) (V D : Nat) : (decStr neg V D).size = sgn neg + D := strC_size _ _

theorem decC_lt (neg : Bool) (V D j : Nat) : decC neg V D j < 256 := by
  unfold decC
  have h1 := fig_lt V (D - j)
  have h2 := fig_lt V (D - 1 - j)
  split
  · split <;> omega
  · omega

theorem decStr_at (neg : Bool) (V D j : Nat) (h : j < (decStr neg V D).size) : ((decStr neg V D)[j]'h).toNat = decC neg V D j := strC_at _ _ _ h (decC_lt _ _ _ _)

/-- What is known of the figures of V. -/
structure Figs (V D : Nat) : Prop where
  small : V < 9007199254740992
  one : 1 ≤ D
  lt : V < 10 ^ D
  lead : D = 1 ∨ 10 ^ (D - 1) ≤ V

theorem Figs.le {V D : Nat} (h : Figs V D) : D ≤ 16 := by
  rcases h.lead with h1 | h1
  · omega
  · rcases Nat.lt_or_ge 16 D with h2 | h2
    · have := Nat.pow_le_pow_right (n := 10) (by omega) (show 16 ≤ D - 1 by omega)
      have := h.small
      omega
    · exact h2

theorem Figs.zero {D : Nat} (h : Figs 0 D) : D = 1 := by
  rcases h.lead with h1 | h1
  · exact h1
  · have := Nat.pow_pos (n := D - 1) (show 0 < 10 by omega); omega

theorem special_dec (neg : Bool) (V D : Nat) (h : Figs V D) (w : World) :
    Calls Tryz.prog 78 #[.string (decStr neg V D)] w fun e w' => e = .returned (.tuple #[.float .f64 0, .int .i64 0, .bool false]) ∧ w' = w := by
  have hs := decStr_size neg V D
  have h16 := h.le
  have h1 := h.one
  cases neg
  · have hf := fig_lt V (D - 1)
    refine special_pos _ (48 + fig V (D - 1)) w (by rw [hs]; simp [sgn]; omega) (by rw [hs]; simp [sgn]; omega) (by omega) ?_
    rw [decStr_at]
    simp [decC]
  · have hf := fig_lt V (D - 1)
    refine special_neg _ (48 + fig V (D - 1)) w (by rw [hs]; simp [sgn]; omega) (by rw [hs]; simp [sgn]; omega) (by omega) ?_ ?_
    · rw [decStr_at]; simp [decC]
    · rw [decStr_at]; simp [decC]

theorem readFloat_dec (neg : Bool) (V D : Nat) (h : Figs V D) (w : World) :
    Calls Tryz.prog 79 #[.string (decStr neg V D)] w fun e w' => e = .returned (.tuple #[.int .u64 (V : Nat), .int .i64 0, .bool neg, .bool false, .bool false, .int .i64 (sgn neg + D : Nat), .bool true]) ∧ w' = w := by
  have hs := decStr_size neg V D
  have h16 := h.le
  have h1 := h.one
  have hsm := h.small
  by_cases h0 : V = 0
  · subst h0
    obtain rfl := h.zero
    cases neg
    · refine readFloat_zero _ w (by rw [hs]; rfl) ?_
      rw [decStr_at]; rfl
    · refine readFloat_negzero _ w (by rw [hs]; rfl) ?_ ?_
      · rw [decStr_at]; rfl
      · rw [decStr_at]; rfl
  · cases neg
    · have := readFloat_pos V D _ w (by omega) (by omega) h1 h16 h.lt h.lead (hs.trans (by simp [sgn])) (fun j hj => by rw [decStr_at]; simp [decC])
      simpa [sgn] using this
    · have := readFloat_neg V D _ w (by omega) (by omega) h1 h16 h.lt h.lead (hs.trans (by simp [sgn]; omega)) (by rw [decStr_at]; rfl) (fun j hj => by
        rw [decStr_at]
        simp only [decC, if_true, if_neg (Nat.succ_ne_zero j)]
        rw [show D - (j + 1) = D - 1 - j by omega])
      simpa [sgn, Nat.add_comm] using this

set_option maxHeartbeats 1000000 in
theorem atof64_dec (neg : Bool) (V D : Nat) (h : Figs V D) (w : World) (h5 : w.cell? ⟨5, 0, none⟩ = some (.bool true)) (h6 : w.cell? ⟨6, 0, none⟩ = some (.int .u64 52)) (h110 : w.cell? ⟨11, 696, none⟩ = some (.int .u64 9223372036854775808)) (h111 : w.cell? ⟨11, 697, none⟩ = some (.int .u64 0)) :
    Calls Tryz.prog 60 #[.string (decStr neg V D)] w fun e w' => e = .returned (.tuple #[.float .f64 (sbit neg + fbits V), .int .i64 (sgn neg + D : Nat), .nilIface]) ∧ Kept [] w w' := by
  have h1 := hid (special_dec neg V D h)
  have h2 := hid (readFloat_dec neg V D h)
  have hsm := h.small
  have h16 := h.le
  have hsg : sgn neg ≤ 1 := by cases neg <;> simp [sgn]
  generalize decStr neg V D = s at *
  generalize sgn neg + D = L at *
  have hff := fun (n : Nat) (w : World) => run_f64from2 n w
  have H60 := hid h6
  clear h
  go_enter Tryz.func60, Tryz.ntmps60
  go_wp2_with (first | (go_at_call 78; refine (h1.out w).mono ?_; rintro e w' ⟨rfl, rfl⟩) | (go_at_call 79; refine (h2.out w').mono ?_; rintro e w' ⟨rfl, rfl⟩))
  have q0 : bits .or .u64 9223372036854775808 0 = 9223372036854775808 := by kernel_rfl
  have q1 : bits .or .u64 0 0 = 0 := by kernel_rfl
  have q2 : ∀ w, Sem.run Tryz.prog (callFunc 88 #[Value.int .u64 0]) w = .ok (.value (.float .f64 0)) w := fun w => run_f64from2 0 w
  have q3 : ∀ w, Sem.run Tryz.prog (callFunc 88 #[Value.int .u64 9223372036854775808]) w = .ok (.value (.float .f64 9223372036854775808)) w := fun w => run_f64from2 9223372036854775808 w
  by_cases h0 : V = 0
  · subst h0
    cases neg
    · refine (bool2u_false _).mono ?_
      rintro e w' ⟨rfl, rfl⟩
      go_wp2
      go_ret3
      exact ⟨rfl, Kept.refl _ _⟩
    · refine (bool2u_true _).mono ?_
      rintro e w' ⟨rfl, rfl⟩
      go_wp2
      go_ret3
      exact ⟨rfl, Kept.refl _ _⟩
  · by_cases hb : V < 4503599627370496
    · have hx := hid (exact_small V neg w' hb h0 h6)
      clear h6
      cases neg
      · refine (bool2u_false _).mono ?_
        rintro e w' ⟨rfl, rfl⟩
        go_wp2_with (go_at_call 89; refine (hx.out).mono ?_; rintro e w' ⟨rfl, rfl⟩)
        go_ret3
        exact ⟨rfl, Kept.refl _ _⟩
      · refine (bool2u_true _).mono ?_
        rintro e w' ⟨rfl, rfl⟩
        go_wp2_with (go_at_call 89; refine (hx.out).mono ?_; rintro e w' ⟨rfl, rfl⟩)
        go_ret3
        exact ⟨rfl, Kept.refl _ _⟩
    · have hx := hid (exact_big V neg w' hsm (by omega) h6)
      have hlog : V.log2 = 52 := by
        have h3 := log2_le V h0 hsm
        have h4 : ¬ V.log2 < 52 := fun h => by
          have := (Nat.log2_lt h0).1 h
          omega
        omega
      have hF : fbits V = V + 4836865999795912704 := by
        unfold fbits
        rw [if_neg h0, hlog]
        omega
      have HFF := hid hF
      have hp := hid (fun (s : Nat) (hs : s = 0 ∨ s = 9223372036854775808) => parseFloat64_plain s (V - 4503599627370496) w' hs (by omega) h110 h111)
      rw [show 4503599627370496 + (V - 4503599627370496) = V by omega] at hp
      clear h6 h110 h111 hF hlog
      cases neg
      · refine (bool2u_false _).mono ?_
        rintro e w' ⟨rfl, rfl⟩
        go_wp2_with (first | (go_at_call 89; refine (hx.out).mono ?_; rintro e w' ⟨rfl, rfl⟩) | (go_at_call 90; refine (hp.out 0 (.inl rfl)).mono ?_; rintro e w2 ⟨rfl, hk2⟩; have HK2 := hid hk2; clear hk2))
        go_ret3
        refine ⟨?_, HK2.out⟩
        rw [HFF.out]
        simp [sbit]
        omega
      · refine (bool2u_true _).mono ?_
        rintro e w' ⟨rfl, rfl⟩
        go_wp2_with (first | (go_at_call 89; refine (hx.out).mono ?_; rintro e w' ⟨rfl, rfl⟩) | (go_at_call 90; refine (hp.out 9223372036854775808 (.inr rfl)).mono ?_; rintro e w2 ⟨rfl, hk2⟩; have HK2 := hid hk2; clear hk2))
        go_ret3
        refine ⟨?_, HK2.out⟩
        rw [HFF.out]
        simp [sbit]
        omega
end Go.Proofs.YtofmickjbpkgbaaGreatDoor
