import Derived.Test.YtofmickjbpkgbaaGreatDoorRead0
import Derived.WalkMore
namespace Go.Proofs.YtofmickjbpkgbaaGreatDoor
open Go.RowKit
set_option maxRecDepth 100000

theorem results_tmp7 {fn : Func} {a b c d e f g : Tmp} (h : fn.results = #[.tmp a, .tmp b, .tmp c, .tmp d, .tmp e, .tmp f, .tmp g]) (tmps : Array Value) (P : Program) (w : World) :
    (results fn tmps).run P w = .ok (.tuple #[tmps.getD a undef, tmps.getD b undef, tmps.getD c undef, tmps.getD d undef, tmps.getD e undef, tmps.getD f undef, tmps.getD g undef]) w := by
  simp [results, h]

theorem fig_next (V e : Nat) : V / 10 ^ e = V / 10 ^ (e + 1) * 10 + fig V e := by
  unfold fig
  rw [Nat.pow_succ, ← Nat.div_div_eq_div_mul]
  omega

theorem div_pow_le (V e : Nat) (h : V ≤ 9007199254740992) : V / 10 ^ e ≤ 9007199254740992 := Nat.le_trans (Nat.div_le_self _ _) h
theorem div_pow_le' (V e : Nat) (h : V ≤ 9007199254740992) (he : 0 < e) : V / 10 ^ e ≤ 900719925474099 := by
  obtain ⟨d, rfl⟩ : ∃ d, e = d + 1 := ⟨e - 1, by omega⟩
  rw [Nat.pow_succ, Nat.mul_comm, ← Nat.div_div_eq_div_mul]
  have := Nat.div_le_self (V / 10) (10 ^ d)
  omega

theorem lead_fig (V D : Nat) (hV : 0 < V) (hD : 1 ≤ D) (hVD : V < 10 ^ D) (hlead : D = 1 ∨ 10 ^ (D - 1) ≤ V) : fig V (D - 1) ≠ 0 := by
  have h1 : 10 ^ (D - 1) ≤ V := by
    rcases hlead with h | h
    · subst h; simp; omega
    · exact h
  have h2 : V / 10 ^ (D - 1) < 10 := by
    rw [Nat.div_lt_iff_lt_mul (Nat.pow_pos (by omega))]
    obtain ⟨d, rfl⟩ : ∃ d, D = d + 1 := ⟨D - 1, by omega⟩
    rw [Nat.pow_succ, Nat.mul_comm] at hVD
    exact hVD
  have h3 : 0 < V / 10 ^ (D - 1) := Nat.div_pos h1 (Nat.pow_pos (by omega))
  unfold fig
  rw [Nat.mod_eq_of_lt h2]
  omega

set_option maxHeartbeats 4000000 in
theorem readFloat_pos (V D : Nat) (s : ByteArray) (w : World) (hV : 0 < V) (hV2 : V ≤ 9007199254740992) (hD : 1 ≤ D) (hD2 : D ≤ 16) (hVD : V < 10 ^ D) (hlead : D = 1 ∨ 10 ^ (D - 1) ≤ V) (hs : s.size = D) (hc : ∀ j (h : j < s.size), (s[j]'h).toNat = 48 + fig V (D - 1 - j)) :
    Calls Tryz.prog 79 #[.string s] w fun e w' => e = .returned (.tuple #[.int .u64 (V : Nat), .int .i64 0, .bool false, .bool false, .bool false, .int .i64 (D : Nat), .bool true]) ∧ w' = w := by
  have h0 := hc 0 (by omega)
  have hf0 : fig V (D - 1) < 10 := fig_lt V _
  have hfp : fig V (D - 1) ≠ 0 := lead_fig V D hV hD hVD hlead
  have HC := hid hc
  have HVD := hid hVD
  rw [Nat.sub_zero] at h0
  clear hc hlead hVD
  obtain ⟨f0, hf⟩ : ∃ f0, f0 = fig V (D - 1) := ⟨_, rfl⟩
  rw [← hf] at h0 hf0 hfp
  have HF := hid hf
  clear hf
  go_enter Tryz.func79, Tryz.ntmps79
  go_wp2
  go_step3
  go_wp2
  all_goals
    go_step3
    go_wp2
    go_loop [2, 5, 7, 9, 13, 14, 15, 16, 17] (fun m t5 i t9 t13 sd nd nm t17 => ∃ (k M : Nat) (b : Bool), m = .int .u64 M ∧ t5 = .bool false ∧ i = .int .i64 k ∧ t9 = .bool false ∧ t13 = .bool false ∧ sd = .bool b ∧ nd = .int .i64 k ∧ nm = .int .i64 k ∧ t17 = .int .i64 0 ∧ k ≤ D ∧ Hid (M = V / 10 ^ (D - k)) ∧ M ≤ 9007199254740992 ∧ (k < D → M ≤ 900719925474099) ∧ Hid (b = true ∨ k = 0)) (fun _ _ i _ _ _ _ _ _ => D - (intOf i).toNat)
    case atStart => 
      refine ⟨0, 0, false, rfl, rfl, rfl, rfl, rfl, rfl, rfl, rfl, rfl, Nat.zero_le _, ?_, by omega, by omega, .inr rfl⟩
      show 0 = V / 10 ^ (D - 0)
      rw [Nat.sub_zero, Nat.div_eq_of_lt HVD.out]
    case round =>
      obtain ⟨k, M, b, rfl, rfl, rfl, rfl, rfl, rfl, rfl, rfl, rfl, hk, HM, hM, hM2, HBB⟩ := hrel
      by_cases hkD : k < D
      · have hck := HC.out k (by omega)
        have hM3 := hM2 hkD
        have hfk : fig V (D - 1 - k) < 10 := fig_lt V _
        have hfz : k = 0 → fig V (D - 1 - k) ≠ 0 := by
          intro h; subst h; rw [Nat.sub_zero, ← HF.out]; exact hfp
        have hnext : M * 10 + fig V (D - 1 - k) = V / 10 ^ (D - (k + 1)) := by
          have := fig_next V (D - 1 - k)
          rw [show D - 1 - k + 1 = D - k by omega, ← HM.out, show D - 1 - k = D - (k + 1) by omega] at this
          rw [show D - 1 - k = D - (k + 1) by omega]
          exact this.symm
        have HN := hid hnext
        clear hnext
        obtain ⟨f, hf⟩ : ∃ f, f = fig V (D - 1 - k) := ⟨_, rfl⟩
        rw [← hf] at hck hfk hfz HN
        clear hf
        go_wp2
        all_goals
          refine ⟨⟨k + 1, M * 10 + f, true, by congr 1; omega, rfl, by go_num, rfl, rfl, rfl, by go_num, by go_num, rfl, by omega, HN.out, ?_, ?_, .inl rfl⟩, by simp [intOf]; omega⟩
          · rw [HN.out]; exact div_pow_le _ _ hV2
          · intro h; rw [HN.out]; exact div_pow_le' _ _ hV2 (by omega)
      · obtain rfl : k = D := by omega
        obtain rfl : b = true := HBB.out.resolve_right (by omega)
        have hMV : M = V := by
          have := HM.out
          rwa [Nat.sub_self, Nat.pow_zero, Nat.div_one] at this
        subst hMV
        go_wp2
        (try simp only [Exit.inBlock, Exit.then])
        refine bodyPost_ret (results_tmp7 rfl _ _ _) rfl ?_
        exact ⟨rfl, rfl⟩

set_option maxHeartbeats 4000000 in
theorem readFloat_neg (V D : Nat) (s : ByteArray) (w : World) (hV : 0 < V) (hV2 : V ≤ 9007199254740992) (hD : 1 ≤ D) (hD2 : D ≤ 16) (hVD : V < 10 ^ D) (hlead : D = 1 ∨ 10 ^ (D - 1) ≤ V) (hs : s.size = D + 1) (hm0 : (s[0]'(by omega)).toNat = 45) (hc : ∀ j (h : j + 1 < s.size), (s[j + 1]'h).toNat = 48 + fig V (D - 1 - j)) :
    Calls Tryz.prog 79 #[.string s] w fun e w' => e = .returned (.tuple #[.int .u64 (V : Nat), .int .i64 0, .bool true, .bool false, .bool false, .int .i64 (D + 1 : Nat), .bool true]) ∧ w' = w := by
  have h0 := hc 0 (by omega)
  have hf0 : fig V (D - 1) < 10 := fig_lt V _
  have hfp : fig V (D - 1) ≠ 0 := lead_fig V D hV hD hVD hlead
  have HC := hid hc
  have HVD := hid hVD
  rw [Nat.sub_zero] at h0
  clear hc hlead hVD
  obtain ⟨f0, hf⟩ : ∃ f0, f0 = fig V (D - 1) := ⟨_, rfl⟩
  rw [← hf] at h0 hf0 hfp
  have HF := hid hf
  clear hf
  go_enter Tryz.func79, Tryz.ntmps79
  go_wp2
  go_step3
  go_wp2
  all_goals
    go_step3
    go_wp2
    go_loop [2, 5, 7, 9, 13, 14, 15, 16, 17] (fun m t5 i t9 t13 sd nd nm t17 => ∃ (k M : Nat) (b : Bool), m = .int .u64 M ∧ t5 = .bool false ∧ i = .int .i64 (k + 1 : Nat) ∧ t9 = .bool false ∧ t13 = .bool false ∧ sd = .bool b ∧ nd = .int .i64 k ∧ nm = .int .i64 k ∧ t17 = .int .i64 0 ∧ k ≤ D ∧ Hid (M = V / 10 ^ (D - k)) ∧ M ≤ 9007199254740992 ∧ (k < D → M ≤ 900719925474099) ∧ Hid (b = true ∨ k = 0)) (fun _ _ i _ _ _ _ _ _ => D + 1 - (intOf i).toNat)
    case atStart => 
      refine ⟨0, 0, false, rfl, rfl, rfl, rfl, rfl, rfl, rfl, rfl, rfl, Nat.zero_le _, ?_, by omega, by omega, .inr rfl⟩
      show 0 = V / 10 ^ (D - 0)
      rw [Nat.sub_zero, Nat.div_eq_of_lt HVD.out]
    case round =>
      obtain ⟨k, M, b, rfl, rfl, rfl, rfl, rfl, rfl, rfl, rfl, rfl, hk, HM, hM, hM2, HBB⟩ := hrel
      by_cases hkD : k < D
      · have hck := HC.out k (by omega)
        have hM3 := hM2 hkD
        have hfk : fig V (D - 1 - k) < 10 := fig_lt V _
        have hfz : k = 0 → fig V (D - 1 - k) ≠ 0 := by
          intro h; subst h; rw [Nat.sub_zero, ← HF.out]; exact hfp
        have hnext : M * 10 + fig V (D - 1 - k) = V / 10 ^ (D - (k + 1)) := by
          have := fig_next V (D - 1 - k)
          rw [show D - 1 - k + 1 = D - k by omega, ← HM.out, show D - 1 - k = D - (k + 1) by omega] at this
          rw [show D - 1 - k = D - (k + 1) by omega]
          exact this.symm
        have HN := hid hnext
        clear hnext
        obtain ⟨f, hf⟩ : ∃ f, f = fig V (D - 1 - k) := ⟨_, rfl⟩
        rw [← hf] at hck hfk hfz HN
        clear hf
        go_wp2
        all_goals
          refine ⟨⟨k + 1, M * 10 + f, true, by congr 1; omega, rfl, by go_num, rfl, rfl, rfl, by go_num, by go_num, rfl, by omega, HN.out, ?_, ?_, .inl rfl⟩, by simp [intOf]; omega⟩
          · rw [HN.out]; exact div_pow_le _ _ hV2
          · intro h; rw [HN.out]; exact div_pow_le' _ _ hV2 (by omega)
      · obtain rfl : k = D := by omega
        obtain rfl : b = true := HBB.out.resolve_right (by omega)
        have hMV : M = V := by
          have := HM.out
          rwa [Nat.sub_self, Nat.pow_zero, Nat.div_one] at this
        subst hMV
        go_wp2
        (try simp only [Exit.inBlock, Exit.then])
        refine bodyPost_ret (results_tmp7 rfl _ _ _) rfl ?_
        exact ⟨by simp, rfl⟩

set_option maxHeartbeats 4000000 in
theorem readFloat_zero (s : ByteArray) (w : World) (hs : s.size = 1) (hm0 : (s[0]'(by omega)).toNat = 48) :
    Calls Tryz.prog 79 #[.string s] w fun e w' => e = .returned (.tuple #[.int .u64 0, .int .i64 0, .bool false, .bool false, .bool false, .int .i64 1, .bool true]) ∧ w' = w := by
  go_enter Tryz.func79, Tryz.ntmps79
  go_wp2
  go_step3
  go_wp2
  all_goals
    go_step3
    go_wp2
    go_rounds 2
    simp only [Exit.noGoto_ret]
    change bodyPost _ _ _ _ _ _
    refine bodyPost_ret (results_tmp7 rfl _ _ _) rfl ?_
    exact ⟨rfl, rfl⟩

set_option maxHeartbeats 4000000 in
theorem readFloat_negzero (s : ByteArray) (w : World) (hs : s.size = 2) (hm0 : (s[0]'(by omega)).toNat = 45) (hm1 : (s[1]'(by omega)).toNat = 48) :
    Calls Tryz.prog 79 #[.string s] w fun e w' => e = .returned (.tuple #[.int .u64 0, .int .i64 0, .bool true, .bool false, .bool false, .int .i64 2, .bool true]) ∧ w' = w := by
  go_enter Tryz.func79, Tryz.ntmps79
  go_wp2
  go_step3
  go_wp2
  all_goals
    go_step3
    go_wp2
    go_rounds 2
    simp only [Exit.noGoto_ret]
    change bodyPost _ _ _ _ _ _
    refine bodyPost_ret (results_tmp7 rfl _ _ _) rfl ?_
    exact ⟨rfl, rfl⟩

end Go.Proofs.YtofmickjbpkgbaaGreatDoor
