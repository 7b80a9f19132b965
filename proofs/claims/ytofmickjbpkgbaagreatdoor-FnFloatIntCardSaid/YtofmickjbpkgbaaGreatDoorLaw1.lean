import Derived.Test.YtofmickjbpkgbaaGreatDoorWords
namespace Go.Proofs.YtofmickjbpkgbaaGreatDoor
open Go.RowKit
set_option maxRecDepth 100000

theorem mod_of_limbs (V K : Nat) : ∀ n, K ≤ n → V < 65536 ^ n → (∀ j, K ≤ j → j < n → V / 65536 ^ j % 65536 = 0) → V % 65536 ^ K = V := by
  have h : ∀ n, K ≤ n → (∀ j, K ≤ j → j < n → V / 65536 ^ j % 65536 = 0) → V % 65536 ^ n = V % 65536 ^ K := by
    intro n
    induction n with
    | zero => intro h _; rw [show K = 0 by omega]
    | succ n ih =>
      intro h hz
      by_cases e : K = n + 1
      · rw [e]
      · rw [Nat.mod_pow_succ, hz n (by omega) (by omega), Nat.mul_zero, Nat.add_zero]
        exact ih (by omega) fun j h1 h2 => hz j h1 (by omega)
  intro n h1 h2 h3
  rw [← h n h1 h3, Nat.mod_eq_of_lt h2]

theorem of_word (V g0 : Nat) (W : World) (hV : V < 18446744073709551616) (hg : g0 < W.heap.size) (hcell : W.cell? ⟨g0, 0, none⟩ = some (.int .u64 (V : Nat))) :
    Calls Tryz.prog 6 #[.slice (some ⟨g0, 0, none⟩) 1 1] W fun e w' => ∃ g K c', e = .returned (.slice (some ⟨g, 0, none⟩) K c') ∧ K ≤ 4 ∧ V % 65536 ^ K = V ∧ K ≤ c' ∧ c' ≤ 9223372036854775807 ∧ Row w' g 3 c' (fun j => .int .i64 (limb (fun _ => V) j : Nat)) K ∧ Kept [] W w' := by
  refine (of_any 1 1 (some ⟨g0, 0, none⟩) (fun _ => V) W (by omega) (by omega) (by omega) (fun _ _ => hV) (.inr ⟨g0, 0, rfl, hg, fun j hj => ?_⟩)).mono ?_
  · obtain rfl : j = 0 := by omega
    exact hcell
  · rintro e w' ⟨g, K, c', rfl, hN, hgs, hc, hcc, hR, hk⟩
    refine ⟨g, K, c', rfl, hN.1, mod_of_limbs V K 4 hN.1 (by omega) fun j h1 h2 => ?_, hc, hcc, hR.congr hN.1 fun _ _ => rfl, hk⟩
    have := hN.2.2 j h1 h2
    unfold limb at this
    rwa [show j % 4 = j by omega] at this

theorem fb_or (V : Nat) (h0 : V ≠ 0) (hV : V < 9007199254740992) :
    ∃ q r : Nat, IntKind.u64.wrap ((V : Int) * 2 ^ (52 - V.log2)) = (q : Int) ∧ bits .and .u64 (q : Int) 4503599627370495 = (r : Int) ∧ bits .or .u64 ((1023 + (V.log2 : Int)) * 4503599627370496) (r : Int) = (fbits V : Int) := by
  have hs := sig_bounds V h0 hV
  have hl := log2_le V h0 hV
  refine ⟨V * 2 ^ (52 - V.log2), V * 2 ^ (52 - V.log2) - 4503599627370496, ?_, ?_, ?_⟩
  · refine u64_id ?_ (by omega)
    rw [Int.natCast_mul, Int.natCast_pow]
    rfl
  · have := bits_and_u64 (V * 2 ^ (52 - V.log2)) 4503599627370495 (by omega) (by omega)
    rw [show (4503599627370495 : Nat) = 2 ^ 52 - 1 from rfl, Nat.and_two_pow_sub_one_eq_mod] at this
    have h2 : V * 2 ^ (52 - V.log2) % 2 ^ 52 = V * 2 ^ (52 - V.log2) - 4503599627370496 := by
      rw [show (2 : Nat) ^ 52 = 4503599627370496 from rfl]; omega
    rw [h2] at this
    exact this
  · unfold fbits
    rw [if_neg h0]
    generalize V * 2 ^ (52 - V.log2) = q at *
    have h3 := add_or 52 (1023 + V.log2) (q - 4503599627370496) (by omega)
    have h4 := (bits_or_u64 ((1023 + V.log2) * 4503599627370496) (q - 4503599627370496) (by omega) (by omega)).1
    rw [show (2 : Nat) ^ 52 = 4503599627370496 from rfl, Nat.mul_comm] at h3
    rw [h3] at h4
    rw [show ((1023 + (V.log2 : Int)) * 4503599627370496) = (((1023 + V.log2) * 4503599627370496 : Nat) : Int) by omega, h4]
    omega

theorem sign_or (F : Nat) (hF : F < 9223372036854775808) : bits .or .u64 (F : Int) 9223372036854775808 = ((sbit true + F : Nat) : Int) := by
  have h := (bits_or_u64 F 9223372036854775808 (by omega) (by omega)).1
  have h2 := add_or 63 1 F (by omega)
  simp at h2
  rw [Nat.or_comm, h2] at h
  exact h

set_option maxHeartbeats 4000000 in
theorem fnFloatInt_pos (m : Nat) (neg : Bool) (w : World) (hm : m < 18446744073709551616) (h0 : m / 2048 ≠ 0) (hG : Glob w) :
    Calls Tryz.prog 3 #[.int .u64 (m : Nat), .bool neg] w fun e w' => e = .returned (.bool true) ∧ Kept [] w w' := by
  have hV : m / 2048 < 9007199254740992 := by omega
  obtain ⟨V, hVe⟩ : ∃ V, V = m / 2048 := ⟨_, rfl⟩
  rw [← hVe] at hV h0
  have HVE : ((m : Int) / 2048) = (V : Int) := by omega
  have HG := hid hG
  obtain ⟨q, r, q1, q2, q3⟩ := fb_or V h0 hV
  have hF := fbits_lt V hV
  have q4 := sign_or (fbits V) (by omega)
  clear hG hVe
  go_enter Tryz.func3, Tryz.ntmps3
  go_wp2
  go_loop [7] (fun i => ∃ e : Nat, i = .int .i64 e ∧ e ≤ V.log2) (fun i => 64 - (intOf i).toNat)
  case atStart => exact ⟨0, rfl, Nat.zero_le _⟩
  case round =>
    obtain ⟨e, rfl, he⟩ := hrel
    have hl := log2_le V h0 hV
    by_cases hlt : e < V.log2
    · have h1 : 0 < V / 2 ^ (e + 1) := Nat.div_pos (Nat.le_trans (Nat.pow_le_pow_right (by omega) hlt) (Nat.log2_self_le h0)) (Nat.pow_pos (by omega))
      have h1' : (0 : Int) < (V : Int) / 2 ^ (e + 1) := by
        have : ((V / 2 ^ (e + 1) : Nat) : Int) = (V : Int) / 2 ^ (e + 1) := by rw [Int.natCast_ediv, Int.natCast_pow]; rfl
        rw [← this]; omega
      go_wp2
      refine ⟨⟨e + 1, by go_num, by omega⟩, by simp [intOf]; omega⟩
    · obtain rfl : e = V.log2 := by omega
      have h1 : V / 2 ^ (V.log2 + 1) = 0 := Nat.div_eq_of_lt (Nat.lt_log2_self)
      have h1' : (V : Int) / 2 ^ (V.log2 + 1) = 0 := by
        have : ((V / 2 ^ (V.log2 + 1) : Nat) : Int) = (V : Int) / 2 ^ (V.log2 + 1) := by rw [Int.natCast_ediv, Int.natCast_pow]; rfl
        rw [← this, h1]; rfl
      go_wp2_with (go_at_call 6; refine (of_word V w.heap.size (w.alloc (.cells #[.int .u64 (V : Nat)] 23)) (by omega) (by simp) (World.cell?_alloc_mark w _ _ _ _)).mono ?_; rintro e w2 ⟨g, K, c', rfl, hK, hKV, hc, hcc, hR, hk2⟩; have HR := hid hR; have HKV := hid hKV; have HK2 := hid (((Kept.refl [] w).alloc (.cells #[.int .u64 (V : Nat)] 23)).then hk2); clear hR hKV hk2)
      all_goals
        refine (words_one K g c' 3 V (fun _ => V) w2 hK hc hcc (by omega) rfl HR.out).mono ?_
        rintro e w3 ⟨v, rfl, hvn, hsv, hk3⟩
        obtain ⟨n, hn⟩ : ∃ n, n = if K = 0 then 0 else 1 := ⟨_, rfl⟩
        rw [← hn] at hsv
        have hn1 : n ≤ 1 := by rw [hn]; split <;> omega
        have hval : val (fun _ => V) n = V := by
          have := HKV.out
          rw [hn]
          split
          · rename_i hK0
            subst hK0
            rw [Nat.pow_zero, Nat.mod_one] at this
            rw [← this]; rfl
          · simp [val]
        rcases hsv with ⟨h, _⟩ | ⟨g1, c1, t1, rfl, hg1, hc1, hc1', rfl, hR1⟩
        · exact absurd h hvn
        have hR1' := hR1.congr (f' := fun _ => .int .u64 (V : Nat)) (Nat.le_refl _) (fun _ _ => by rw [HKV.out])
        have HR1 := hid hR1'
        have HK3 := hid (HK2.out.then hk3)
        have HVAL := hid hval
        clear hn hval hvn hR1 hR1' hk3 HR HKV HK2
        go_wp2_with fail
        have hlt1 := HR1.out.lt
        refine (implFloat64_any _ (some ⟨g1, 0, none⟩) n c1 (fun _ => V) _ hn1 hc1 hc1' (fun _ _ => hV) (.inr ⟨g1, 0, rfl, by simp; omega, fun j hj => ?_⟩) ((HG.out.kept HK3.out).kept ((Kept.refl [] w3).alloc _))).mono ?_
        · rw [Nat.zero_add]; exact ((Kept.refl [] w3).alloc _).cellOf (HR1.out.cell hj) (by simp)
        rintro e w4 ⟨rfl, hk4⟩
        rw [HVAL.out]
        have HK4 := hid ((HK3.out.alloc _).then hk4)
        have sf : sbit false = 0 := rfl
        clear hk4
        go_wp2
        go_ret
        exact ⟨rfl, HK4.out⟩

set_option maxHeartbeats 4000000 in
theorem fnFloatInt_zero (m : Nat) (neg : Bool) (w : World) (h0 : m / 2048 = 0) (hG : Glob w) :
    Calls Tryz.prog 3 #[.int .u64 (m : Nat), .bool neg] w fun e w' => e = .returned (.bool true) ∧ Kept [] w w' := by
  have HVE : ((m : Int) / 2048) = 0 := by omega
  have HG := hid hG
  have q4 : bits .or .u64 0 9223372036854775808 = 9223372036854775808 := by kernel_rfl
  have hV : 0 < 9007199254740992 := by omega
  clear hG
  go_enter Tryz.func3, Tryz.ntmps3
  cases neg
  all_goals
    go_wp2_with (go_at_call 6; refine (of_word 0 w.heap.size (w.alloc (.cells #[.int .u64 0] 23)) (by omega) (by simp) (World.cell?_alloc_mark w _ _ _ _)).mono ?_; rintro e w2 ⟨g, K, c', rfl, hK, hKV, hc, hcc, hR, hk2⟩; have HR := hid hR; have HKV := hid hKV; have HK2 := hid (((Kept.refl [] w).alloc (.cells #[.int .u64 0] 23)).then hk2); clear hR hKV hk2)
    refine (words_one K g c' 3 0 (fun _ => 0) w2 hK hc hcc (by omega) rfl HR.out).mono ?_
    rintro e w3 ⟨v, rfl, hvn, hsv, hk3⟩
    obtain ⟨n, hn⟩ : ∃ n, n = if K = 0 then 0 else 1 := ⟨_, rfl⟩
    rw [← hn] at hsv
    have hn1 : n ≤ 1 := by rw [hn]; split <;> omega
    have hval : val (fun _ => 0) n = 0 := by
      rw [hn]
      split
      · rfl
      · rfl
    rcases hsv with ⟨h, _⟩ | ⟨g1, c1, t1, rfl, hg1, hc1, hc1', rfl, hR1⟩
    · exact absurd h hvn
    have hR1' := hR1.congr (f' := fun _ => .int .u64 (0 : Nat)) (Nat.le_refl _) (fun _ _ => by rw [HKV.out])
    have HR1 := hid hR1'
    have HK3 := hid (HK2.out.then hk3)
    have HVAL := hid hval
    clear hn hval hvn hR1 hR1' hk3 HR HKV HK2
    go_wp2_with fail
    have hlt1 := HR1.out.lt
    refine (implFloat64_any _ (some ⟨g1, 0, none⟩) n c1 (fun _ => 0) _ hn1 hc1 hc1' (fun _ _ => hV) (.inr ⟨g1, 0, rfl, by simp; omega, fun j hj => ?_⟩) ((HG.out.kept HK3.out).kept ((Kept.refl [] w3).alloc _))).mono ?_
    · rw [Nat.zero_add]; exact ((Kept.refl [] w3).alloc _).cellOf (HR1.out.cell hj) (by simp)
    rintro e w4 ⟨rfl, hk4⟩
    rw [HVAL.out]
    have HK4 := hid ((HK3.out.alloc _).then hk4)
    have sf : sbit false = 0 := rfl
    have sf2 : sbit true = 9223372036854775808 := rfl
    have sf3 : fbits 0 = 0 := rfl
    clear hk4
    go_wp2
    go_ret
    exact ⟨rfl, HK4.out⟩

theorem fnFloatInt_any (m : Nat) (neg : Bool) (w : World) (hm : m < 18446744073709551616) (hG : Glob w) :
    Calls Tryz.prog 3 #[.int .u64 (m : Nat), .bool neg] w fun e w' => e = .returned (.bool true) ∧ Kept [] w w' := by
  by_cases h : m / 2048 = 0
  · exact fnFloatInt_zero m neg w h hG
  · exact fnFloatInt_pos m neg w hm h hG
end Go.Proofs.YtofmickjbpkgbaaGreatDoor
