import Derived.Test.YtofmickjbpkgbaaGreatDoorMo
set_option maxRecDepth 100000
namespace Go.Proofs.YtofmickjbpkgbaaGreatDoor
section
open Go.RowKit

/-- Decimal.Sign. -/
theorem decSign_any (b f V : Nat) (neg : Bool) (ex : Int) (w : World) (hd : DA w b f neg ex V) (hf : f = 0 ∨ f = 1 ∨ f = 3) :
    Calls Tryz.prog 116 #[.pointer (some ⟨b, 0, none⟩)] w fun e w' => (∃ r : Int, e = .returned (.int .i64 r)) ∧ w' = w := by
  have HS := hid hd.big.sign
  obtain ⟨v, hb, hv⟩ := hd
  have z0 := cell_of_heap hb 0
  have z1 := cell_of_heap hb 1
  clear hb hv
  rcases hf with rfl | rfl | rfl
  · go_enter Tryz.func116, Tryz.ntmps116
    go_wp2_with fail
    refine (HS.out).mono ?_
    rintro e w1 ⟨⟨r, rfl, hr⟩, rfl⟩
    clear HS
    rcases hr with ⟨_, rfl⟩ | ⟨_, rfl⟩
    · go_wp2
      go_ret
      exact ⟨⟨_, rfl⟩, rfl⟩
    · cases neg
      all_goals
        go_wp2
        go_ret
        exact ⟨⟨_, rfl⟩, rfl⟩
  · go_enter Tryz.func116, Tryz.ntmps116
    cases neg
    all_goals
      go_wp2
      go_ret
      exact ⟨⟨_, rfl⟩, rfl⟩
  · go_enter Tryz.func116, Tryz.ntmps116
    cases neg
    all_goals
      go_wp2
      go_ret
      exact ⟨⟨_, rfl⟩, rfl⟩

/-- Decimal.Set of itself. -/
theorem decSet_self (b : Nat) (w : World) :
    Calls Tryz.prog 115 #[.pointer (some ⟨b, 0, none⟩), .pointer (some ⟨b, 0, none⟩)] w fun e w' => e = .returned (.pointer (some ⟨b, 0, none⟩)) ∧ w' = w := by
  obtain ⟨j, hj1, hj2⟩ := info_of_size Tryz.sz69
  have hq := run_eql_ptr_same (P := Tryz.prog) w ⟨b, 0, none⟩ Tryz.underlying53 hj1
  clear hj1 hj2
  go_enter Tryz.func115, Tryz.ntmps115
  go_wp2
  go_ret
  exact ⟨rfl, rfl⟩

set_option maxHeartbeats 4000000 in
/-- Rounder.Round of a Decimal onto itself, rounding disabled. -/
theorem round_any (b f V : Nat) (neg : Bool) (ex : Int) (w : World) (hd : DA w b f neg ex V) (hf : f = 0 ∨ f = 1 ∨ f = 3) (he : -400 ≤ ex ∧ ex ≤ 400) (hV : V < 2 ^ (64 * 3)) (hG : Glob2 w) (hb20 : 20 ≤ b) :
    Calls Tryz.prog 73 #[.string ⟨#[]⟩, .pointer (some ⟨1, 0, none⟩), .pointer (some ⟨b, 0, none⟩), .pointer (some ⟨b, 0, none⟩), .bool true] w fun e w' =>
      e = .returned (.int .u32 0) ∧ DA w' b f neg ex V ∧ Kept [b] w w' := by
  have HD := hid hd
  have HG := hid hG
  have HND := hid (decNumDigits_any b V w hd.big hV hG)
  have HV := hid hV
  clear hd hG hV
  go_enter Tryz.func73, Tryz.ntmps73
  go_wp2_with fail
  refine (decSet_self b w).mono ?_
  rintro e w1 ⟨rfl, rfl⟩
  go_wp2_with fail
  refine (HND.out).mono ?_
  rintro e w2 ⟨nd, rfl, hnd, hk2⟩
  have hd2 := HD.out.keep hk2
  have hG2 := HG.out.keep hk2
  have HD2 := hid hd2
  have HG2 := hid hG2
  have HK2 := hid hk2
  clear hk2 hd2 hG2 HD HG HND
  go_wp2_with fail
  refine (decSign_any b f V neg ex w2 HD2.out hf).mono ?_
  rintro e w3 ⟨⟨r, rfl⟩, rfl⟩
  have c0 := HG2.out.c0
  have hex : w3.cell? ⟨b, 2, none⟩ = some (.int .i32 ex) := by obtain ⟨v, hb, _⟩ := HD2.out; exact (cell_of_heap hb 2).trans rfl
  have hka := (Kept.refl [] w3).alloc (.cells #[.int .i64 ex] 2)
  have hrow : Row (w3.alloc (.cells #[.int .i64 ex] 2)) w3.heap.size 2 1 (fun j => .int .i64 ((fun _ => ex) j)) 1 := ⟨_, heap_alloc_new w3 _, rfl, fun j hj => by rw [Nat.lt_one_iff.1 hj]; rfl⟩
  have H72 := setExponent_any b w3.heap.size 1 1 f V neg ex nd (fun _ => ex) _ (HD2.out.keep hka) HV.out (.inr ⟨by omega, by omega⟩) (by omega) hrow (fun _ _ => he) (HG2.out.keep hka)
  have hp : psum (fun _ => ex) 1 = ex := by simp [psum]
  rw [hp] at H72
  have H72 := hid H72
  have HKA := hid (HK2.out.then hka)
  clear hka hrow hp HD2 HG2 HK2
  go_wp2_with fail
  refine (H72.out).mono ?_
  rintro e w4 ⟨rfl, hd4, hk4⟩
  have HD4 := hid hd4
  have HK4 := hid (HKA.out.trans hk4 (ds := [b]) (by simp) (by simp))
  clear hd4 hk4 H72
  go_wp2
  go_ret
  exact ⟨rfl, HD4.out, HK4.out⟩

theorem ctxRound_any (b f V : Nat) (neg : Bool) (ex : Int) (w : World) (hd : DA w b f neg ex V) (hf : f = 0 ∨ f = 1 ∨ f = 3) (he : -400 ≤ ex ∧ ex ≤ 400) (hV : V < 2 ^ (64 * 3)) (hG : Glob2 w) (hb20 : 20 ≤ b) :
    Calls Tryz.prog 53 #[.pointer (some ⟨1, 0, none⟩), .pointer (some ⟨b, 0, none⟩), .pointer (some ⟨b, 0, none⟩)] w fun e w' =>
      e = .returned (.int .u32 0) ∧ DA w' b f neg ex V ∧ Kept [b] w w' := by
  have H := hid (round_any b f V neg ex w hd hf he hV hG hb20)
  have c4 := hG.c4
  clear hd hG hV
  go_enter Tryz.func53, Tryz.ntmps53
  go_wp2_with fail
  refine (H.out).mono ?_
  rintro e w4 ⟨rfl, hd4, hk4⟩
  have HD4 := hid hd4
  have HK4 := hid hk4
  clear hd4 hk4 H
  go_wp2
  go_ret
  exact ⟨rfl, HD4.out, HK4.out⟩

/-- Context.SetString of a text that a Decimal has written, onto a new Decimal. -/
theorem ctxSetString_any (b f V : Nat) (neg : Bool) (e : Int) (l : List UInt8) (w : World) (hl : Bare l) (hsay : Says f V e (Lib.toLowerA l)) (hV : V < 2 ^ (64 * 3)) (he : -400 ≤ e ∧ e ≤ 400) (hb : DN w b 0 false 0) (hG : Glob2 w) (hb20 : 20 ≤ b) (hf : f = 0 ∨ f = 1 ∨ f = 3) :
    Calls Tryz.prog 38 #[.pointer (some ⟨1, 0, none⟩), .pointer (some ⟨b, 0, none⟩), .string ⟨(sgnL neg ++ l).toArray⟩] w fun r w' =>
      r = .returned (.tuple #[.pointer (some ⟨b, 0, none⟩), .int .u32 0, .nilIface]) ∧ ReadAs w' b f neg e V ∧ Kept [b] w w' := by
  have H := hid (setString_any b f V neg e l w hl hsay hV he hb hG hb20)
  have HG := hid hG
  clear hl hsay hV hb hG
  go_enter Tryz.func38, Tryz.ntmps38
  go_wp2_with fail
  refine (H.out).mono ?_
  rintro r w1 ⟨rfl, ⟨ex', V', h1, h2, h3, h4, h5⟩, hk1⟩
  have HR := hid (ctxRound_any b f V' neg ex' w1 h5 hf ⟨h2, h3⟩ h4 (HG.out.kept hk1 (by simp; omega)) hb20)
  have HK1 := hid hk1
  have H1 := hid h1
  have H4 := hid h4
  clear H hk1 h1 h4 h5
  go_wp2_with fail
  refine (HR.out).mono ?_
  rintro r w2 ⟨rfl, hd, hk2⟩
  have HD := hid hd
  have HK2 := hid (HK1.out.trans hk2 (ds := [b]) (by simp) (by simp))
  clear hd hk2 HR
  go_wp2_with fail
  refine (goError_0 w2).mono ?_
  rintro r w3 ⟨rfl, rfl⟩
  go_wp2
  go_ret3
  exact ⟨rfl, ⟨ex', V', H1.out, h2, h3, H4.out, HD.out⟩, HK2.out⟩

theorem decSetString_any (b f V : Nat) (neg : Bool) (e : Int) (l : List UInt8) (w : World) (hl : Bare l) (hsay : Says f V e (Lib.toLowerA l)) (hV : V < 2 ^ (64 * 3)) (he : -400 ≤ e ∧ e ≤ 400) (hb : DN w b 0 false 0) (hG : Glob2 w) (hb20 : 20 ≤ b) (hf : f = 0 ∨ f = 1 ∨ f = 3) :
    Calls Tryz.prog 30 #[.pointer (some ⟨b, 0, none⟩), .string ⟨(sgnL neg ++ l).toArray⟩] w fun r w' =>
      r = .returned (.tuple #[.pointer (some ⟨b, 0, none⟩), .int .u32 0, .nilIface]) ∧ ReadAs w' b f neg e V ∧ Kept [b] w w' := by
  have H := hid (ctxSetString_any b f V neg e l w hl hsay hV he hb hG hb20 hf)
  clear hl hsay hV hb hG
  go_enter Tryz.func30, Tryz.ntmps30
  go_wp2_with fail
  refine (H.out).mono ?_
  rintro r w1 ⟨rfl, h1, hk1⟩
  have H1 := hid h1
  have HK1 := hid hk1
  clear H h1 hk1
  go_wp2
  go_ret3
  exact ⟨rfl, H1.out, HK1.out⟩

theorem unmarshalText_any (b f V : Nat) (neg : Bool) (e : Int) (l : List UInt8) (v : Value) (B : Nat) (w : World) (hl : Bare l) (hsay : Says f V e (Lib.toLowerA l)) (hV : V < 2 ^ (64 * 3)) (he : -400 ≤ e ∧ e ≤ 400) (hb : DN w b 0 false 0) (hG : Glob2 w) (hb20 : 20 ≤ b) (hf : f = 0 ∨ f = 1 ∨ f = 3)
    (hv : BS B w v (sgnL neg ++ l)) (hne : sgnL neg ++ l ≠ []) :
    Calls Tryz.prog 22 #[.pointer (some ⟨b, 0, none⟩), v] w fun r w' =>
      r = .returned .nilIface ∧ ReadAs w' b f neg e V ∧ Kept [b] w w' := by
  have H := hid (decSetString_any b f V neg e l w hl hsay hV he hb hG hb20 hf)
  have hc := run_convert_bs hv hne
  obtain ⟨ao, c, rfl⟩ := hv.shape
  clear hl hsay hV hb hG hv hne
  generalize sgnL neg ++ l = L at *
  go_enter Tryz.func22, Tryz.ntmps22
  go_wp2_with fail
  refine (H.out).mono ?_
  rintro r w1 ⟨rfl, h1, hk1⟩
  have H1 := hid h1
  have HK1 := hid hk1
  clear H h1 hk1 hc
  go_wp2
  go_ret
  exact ⟨rfl, H1.out, HK1.out⟩
end

section
open Go.RowKit

/-- BigInt.MathBigInt of a Decimal's coefficient. -/
theorem mathBigInt_any (b f V : Nat) (neg : Bool) (ex : Int) (w : World) (hd : DA w b f neg ex V) (hV : V < 2 ^ (64 * 3)) :
    Calls Tryz.prog 39 #[.pointer (some ⟨b, 3, none⟩)] w fun e w' => ∃ g n x v', e = .returned (.pointer (some ⟨g, 0, none⟩)) ∧ n ≤ 3 ∧ w'.heap[g]? = some (.cells #[.bool false, v'] 65 (0, 0)) ∧
      NatV w.heap.size w' v' n x ∧ (∀ j, j < n → x j < 18446744073709551616) ∧ (n = 0 ∨ x (n - 1) ≠ 0) ∧ val x n = V ∧ Kept [] w w' := by
  obtain ⟨v, hb, hv⟩ := hd
  obtain ⟨n, x, hn, h1, h2, h3, h4⟩ := hv.words hV
  have hlt := lt_of_heap hb
  have hka := (Kept.refl [] w).alloc (.cells #[.bool false, .slice none 0 0] 65)
  have H := hid (intSet_any w.heap.size 0 b 3 n false false v _ _ 65 69 x (w.alloc (.cells #[.bool false, .slice none 0 0] 65)) (by omega) (by omega) (heap_alloc_new w _) rfl rfl (hka.heap hb (by simp)) rfl rfl ((NatV.alloc h1 _).mono (by omega)))
  have H2 := hid h2
  have H3 := hid h3
  have H4 := hid h4
  have HKA := hid hka
  clear hb hv h1 h2 h3 h4 hka hV
  go_enter Tryz.func39, Tryz.ntmps39
  go_wp2_with fail
  refine (H.out).mono ?_
  rintro e w1 ⟨rfl, v', h5, h6, h7⟩
  have H5 := hid (h5.mono (B' := w.heap.size) (by simp))
  have HK := hid (HKA.out.trans h6 (ds := []) (by simp) (by simp))
  have H7 := hid h7
  clear h5 h6 h7 H
  go_wp2
  go_ret
  exact ⟨_, n, x, v', rfl, hn, H7.out, H5.out, H2.out, H3.out, H4.out, HK.out⟩

theorem bits_any (g : Nat) (v : Value) (w : World) (h : w.heap[g]? = some (.cells #[.bool false, v] 65 (0, 0))) :
    Calls Tryz.prog 40 #[.pointer (some ⟨g, 0, none⟩)] w fun e w' => e = .returned v ∧ w' = w := by
  have z := (cell_of_heap h 1).trans rfl
  clear h
  go_enter Tryz.func40, Tryz.ntmps40
  go_wp2
  go_ret
  exact ⟨rfl, rfl⟩

set_option maxHeartbeats 4000000 in
/-- impl.words of a Decimal's coefficient. -/
theorem implWords_any (b f V : Nat) (neg : Bool) (ex : Int) (w : World) (hd : DA w b f neg ex V) (hV : V < 2 ^ (64 * 3)) :
    Calls Tryz.prog 31 #[.pointer (some ⟨b, 3, none⟩)] w fun e w' => ∃ n x v', e = .returned v' ∧ n ≤ 3 ∧ SV (· = 23) w.heap.size w' v' n (fun j => .int .u64 (x j : Nat)) ∧
      (∀ j, j < n → x j < 18446744073709551616) ∧ (n = 0 ∨ x (n - 1) ≠ 0) ∧ val x n = V ∧ Kept [] w w' := by
  have H := hid (mathBigInt_any b f V neg ex w hd hV)
  obtain ⟨i0, hi, hz0, hz1, hz2⟩ := info_parts Tryz.info23
  clear hd hV
  go_enter Tryz.func31, Tryz.ntmps31
  go_wp2_with fail
  refine (H.out).mono ?_
  rintro e w1 ⟨g, n, x, v, rfl, hn, hh, hv, h2, h3, h4, hk⟩
  have H2 := hid h2
  have H3 := hid h3
  have H4 := hid h4
  have HK := hid hk
  have HV := hid hv
  have hs1 := hk.size
  clear h2 h3 h4 hk H
  obtain ⟨ao, c, rfl⟩ := hv.shape
  clear hv
  go_wp2_with fail
  refine (bits_any g _ w1 hh).mono ?_
  rintro e w2 ⟨rfl, rfl⟩
  clear hh
  go_wp2_with fail
  go_loopw [3, 10] (fun l i wr => ∃ k : Nat, k ≤ n ∧ i = .int .i64 k ∧ Hid (SV (· = 23) w2.heap.size wr l k (fun j => .int .u64 (x j : Nat))) ∧ Hid (Kept [] w2 wr)) (fun _ i _ => n - (intOf i).toNat)
  case atStart => exact ⟨0, Nat.zero_le _, rfl, SV.nil _ _ _ _, Kept.refl _ _⟩
  case round =>
    obtain ⟨k, hk, rfl, HSV, HKR⟩ := hrel
    by_cases hlt : k < n
    · obtain ⟨g1, c1, he1, hg1, hn1, hc1, hR1⟩ : ∃ g c', Value.slice ao n c = .slice (some ⟨g, 0, none⟩) n c' ∧ w.heap.size ≤ g ∧ n ≤ c' ∧ c' ≤ 9223372036854775807 ∧ WRow w2 g c' x n := by
        rcases HV.out with ⟨_, h0⟩ | h
        · omega
        · exact h
      cases he1
      have hck := HKR.out.cellOf (hR1.cell hlt) (by simp)
      have hA := HKR.out.alloc (.cells #[.int .u64 (x k : Nat)] 23)
      have hB := HKR.out.size
      have HA := hid hA
      clear hR1 hA HV
      go_wp2_with (at_builtin; refine wpList_append_sv _ rfl (.tmp 14) (.tmp 16) 24 24 rfl 23 i0 (.int .u64 0) 8 Tryz.underlying24 hi hz0 hz1 hz2 rfl (· = 23) rfl w2.heap.size k 1 _ _ (fun j => .int .u64 (x j : Nat)) (fun _ => .int .u64 (x k : Nat)) rfl (HSV.out.alloc _) rfl (Src.one _ 24 23 23 _ Tryz.underlying24 rfl) (by omega) (by omega) (by simp; omega) ?_)
      intro v' w3 hsv' hk1 hown
      have hkw := HA.out.trans hk1 (ds := []) (by simp) (by
        intro y hy
        right
        rcases HSV.out with ⟨rfl, _⟩ | ⟨g', c', t', rfl, h1, _⟩
        · simp [Value.ownBlock] at hy
        · simp [Value.ownBlock] at hy; omega)
      have hsv2 := hsv'.congr (f' := fun j => .int .u64 (x j : Nat)) (fun j hj => by
        unfold appF
        split
        · rfl
        · rw [show j = k by omega])
      have HSV2 := hid hsv2
      have HKW2 := hid hkw
      clear hkw hsv2 hsv' hk1 hown hck HA
      go_wp2
      go_roundw
      case rel => exact ⟨k + 1, by omega, by go_num, HSV2, HKW2⟩
      case measure => simp [intOf]; omega
    · obtain rfl : k = n := by omega
      go_wp2
      go_ret
      exact ⟨k, x, _, rfl, hn, HSV.out.mono hs1, H2.out, H3.out, H4.out, HK.out.then HKR.out⟩

/-- impl.told of what is no finite number. -/
theorem told_word (b f V : Nat) (neg : Bool) (ex : Int) (w : World) (hd : DA w b f neg ex V) (hf : f = 1 ∨ f = 3) :
    Calls Tryz.prog 23 #[.pointer (some ⟨b, 0, none⟩)] w fun e w' => e = .returned (.agg #[.int .i64 f, .bool neg, .slice none 0 0, .int .i64 0]) ∧ Kept [] w w' := by
  obtain ⟨v, hb, hv⟩ := hd
  have z0 := cell_of_heap hb 0
  have z1 := cell_of_heap hb 1
  have hlt := lt_of_heap hb
  clear hb hv
  rcases hf with rfl | rfl
  all_goals
    go_enter Tryz.func23, Tryz.ntmps23
    go_wp2
    go_returns
    exact ⟨rfl, ((Kept.refl [] w).alloc _).alloc _⟩

set_option maxHeartbeats 4000000 in
theorem told_fin (b V : Nat) (neg : Bool) (ex : Int) (w : World) (hd : DA w b 0 neg ex V) (hV : V < 2 ^ (64 * 3)) (he : -400 ≤ ex ∧ ex ≤ 400) :
    Calls Tryz.prog 23 #[.pointer (some ⟨b, 0, none⟩)] w fun e w' => ∃ n x v', e = .returned (.agg #[.int .i64 0, .bool neg, v', .int .i64 ex]) ∧ n ≤ 3 ∧ SV (· = 23) w.heap.size w' v' n (fun j => .int .u64 (x j : Nat)) ∧
      (∀ j, j < n → x j < 18446744073709551616) ∧ (n = 0 ∨ x (n - 1) ≠ 0) ∧ val x n = V ∧ Kept [] w w' := by
  have HW : Hid (∀ w', DA w' b 0 neg ex V → _) := hid fun w' h => implWords_any b 0 V neg ex w' h hV
  have HD := hid hd
  obtain ⟨v, hb, hv⟩ := hd
  have z0 := cell_of_heap hb 0
  have z1 := cell_of_heap hb 1
  have hlt := lt_of_heap hb
  have hk2 := ((Kept.refl [] w).alloc (.cells #[.int .i64 0, .bool false, .slice none 0 0, .int .i64 0] 30)).alloc (.cells #[.int .i64 0, .bool neg, .slice none 0 0, .int .i64 0] 30)
  have hA := heap_alloc_old' (heap_alloc_new w (.cells #[.int .i64 0, .bool false, .slice none 0 0, .int .i64 0] 30)) (.cells #[.int .i64 0, .bool neg, .slice none 0 0, .int .i64 0] 30)
  have hB := two_allocs w (.cells #[.int .i64 0, .bool false, .slice none 0 0, .int .i64 0] 30) (.cells #[.int .i64 0, .bool neg, .slice none 0 0, .int .i64 0] 30)
  have hd2 := HD.out.keep hk2
  have HK2 := hid hk2
  have HA := hid hA
  have HB := hid hB
  have HD2 := hid hd2
  clear hb hv hk2 hA hB hd2 HD hV
  go_enter Tryz.func23, Tryz.ntmps23
  go_wp2_with fail
  clear z0 z1
  generalize (w.alloc (.cells #[.int .i64 0, .bool false, .slice none 0 0, .int .i64 0] 30)).alloc (.cells #[.int .i64 0, .bool neg, .slice none 0 0, .int .i64 0] 30) = W2 at *
  have hs2 := HK2.out.size
  have hltB : w.heap.size + 1 < W2.heap.size := lt_of_heap HB.out
  have z2 : W2.cell? ⟨b, 2, none⟩ = some (.int .i32 ex) := by obtain ⟨v, hb, _⟩ := HD2.out; exact (cell_of_heap hb 2).trans rfl
  have hwx : IntKind.i64.wrap ex = ex := by rw [IntKind.wrap_i64]; omega
  go_region_with (go_at_call 31; refine (HW.out _ (HD2.out.keep (by first | exact Kept.refl _ _ | exact (Kept.refl [] _).drew | exact (Kept.refl [] _).drewN _))).mono ?_; rintro e w3 ⟨n, x, v', rfl, hn, hsv, h1, h2, h3, hk3⟩; have hk3' : Kept [] W2 w3 := (by first | exact hk3 | exact hk3.ofDrew | exact ((Kept.refl [] W2).drewN _).then hk3); have y2 := hk3'.cellOf z2 (by simp); have hB3 := hk3'.heap HB.out (by simp); have b2 := cell_of_heap hB3 2; have b3 := cell_of_heap hB3 3; have fb := frozen_of_heap hB3; have HSV := hid hsv; have H1 := hid h1; have H2 := hid h2; have H3 := hid h3; have HK3 := hid hk3'; obtain ⟨ao, c, rfl⟩ := hsv.shape; clear hsv h1 h2 h3 hk3 hk3' hB3)
  all_goals
    have hB3 := HK3.out.heap HB.out (by simp)
    have hA3 := HK3.out.heap HA.out (by simp)
    have c0 := cell_of_heap hB3 0
    have c1 := cell_of_heap hB3 1
    have a0 := cell_of_heap hA3 0
    have a1 := cell_of_heap hA3 1
    have a2 := cell_of_heap hA3 2
    have a3 := cell_of_heap hA3 3
    have fa := frozen_of_heap hA3
    have hs1 := HSV.out.kept (bs := [w.heap.size, w.heap.size + 1]) ((((((Kept.refl _ w3).setCell ⟨w.heap.size + 1, 2, none⟩ (.slice ao n c) (.inl (by simp))).setCell ⟨w.heap.size + 1, 3, none⟩ (.int .i64 ex) (.inl (by simp))).setCell ⟨w.heap.size, 0, none⟩ (.int .i64 0) (.inl (by simp))).setCell ⟨w.heap.size, 1, none⟩ (.bool neg) (.inl (by simp))).setCell ⟨w.heap.size, 2, none⟩ (.slice ao n c) (.inl (by simp)) |>.setCell ⟨w.heap.size, 3, none⟩ (.int .i64 ex) (.inl (by simp))) (fun b hb hown => by
      have h1 := HSV.out
      rcases h1 with ⟨h1, _⟩ | ⟨g, c', t', h1, h2, _⟩
      · rw [h1] at hown; simp [Value.ownBlock] at hown
      · rw [h1] at hown; simp [Value.ownBlock] at hown; simp at hb h2; omega)
    have hh := heap_setCell_self (heap_setCell_self (heap_setCell_self (heap_setCell_self (heap_setCell_other (heap_setCell_other hA3 ⟨w.heap.size + 1, 2, none⟩ (.slice ao n c) (by simp)) ⟨w.heap.size + 1, 3, none⟩ (.int .i64 ex) (by simp)) 0 (.int .i64 0)) 1 (.bool neg)) 2 (.slice ao n c)) 3 (.int .i64 ex)
    have hkf := ((((((HK2.out.then HK3.out).setCell ⟨w.heap.size + 1, 2, none⟩ (.slice ao n c) (.inr (by simp))).setCell ⟨w.heap.size + 1, 3, none⟩ (.int .i64 ex) (.inr (by simp))).setCell ⟨w.heap.size, 0, none⟩ (.int .i64 0) (.inr (by simp))).setCell ⟨w.heap.size, 1, none⟩ (.bool neg) (.inr (by simp))).setCell ⟨w.heap.size, 2, none⟩ (.slice ao n c) (.inr (by simp))).setCell ⟨w.heap.size, 3, none⟩ (.int .i64 ex) (.inr (by simp))
    have HH := hid hh
    have HS1 := hid hs1
    have HKF := hid hkf
    clear hA3 hB3 hh hs1 hkf
    go_wp2
    generalize (World.setCell _ ⟨w.heap.size, 3, none⟩ (.int .i64 ex)) = W5 at *
    have d0 : W5.cell? ⟨w.heap.size, 0, none⟩ = some (.int .i64 0) := (cell_of_heap HH.out 0).trans rfl
    have d1 : W5.cell? ⟨w.heap.size, 1, none⟩ = some (.bool neg) := (cell_of_heap HH.out 1).trans rfl
    have d2 : W5.cell? ⟨w.heap.size, 2, none⟩ = some (.slice ao n c) := (cell_of_heap HH.out 2).trans rfl
    have d3 : W5.cell? ⟨w.heap.size, 3, none⟩ = some (.int .i64 ex) := (cell_of_heap HH.out 3).trans rfl
    refine bodyPost_ret (v := .agg #[.int .i64 0, .bool neg, .slice ao n c, .int .i64 ex]) (by simp [results, Tryz.results23, go_sem, d0, d1, d2, d3]) rfl ?_
    exact ⟨n, x, _, rfl, hn, HS1.out.mono (by simp; omega), H1.out, H2.out, H3.out, HKF.out⟩
end

section
open Go.RowKit

/-- z is such a Dec. -/
def DecR (B : Nat) (w : World) (f : Nat) (neg : Bool) (ex : Int) (V : Nat) (z : Value) : Prop :=
  (f = 0 ∧ ∃ n x ao c, z = .agg #[.int .i64 0, .bool neg, .slice ao n c, .int .i64 ex] ∧ n ≤ 3 ∧ SV (· = 23) B w (.slice ao n c) n (fun j => .int .u64 (x j : Nat)) ∧ (∀ j, j < n → x j < 18446744073709551616) ∧ (n = 0 ∨ x (n - 1) ≠ 0) ∧ val x n = V) ∨
  ((f = 1 ∨ f = 3) ∧ z = .agg #[.int .i64 f, .bool neg, .slice none 0 0, .int .i64 0])

theorem DecR.shape {B : Nat} {w : World} {f : Nat} {neg : Bool} {ex : Int} {V : Nat} {z : Value} (h : DecR B w f neg ex V z) : ∃ ao n c e, z = .agg #[.int .i64 f, .bool neg, .slice ao n c, .int .i64 e] := by
  rcases h with ⟨rfl, n, x, ao, c, rfl, _⟩ | ⟨_, rfl⟩
  · exact ⟨ao, n, c, ex, rfl⟩
  · exact ⟨none, 0, 0, 0, rfl⟩

theorem DecR.kept {B : Nat} {w w' : World} {f : Nat} {neg : Bool} {ex : Int} {V : Nat} {z : Value} {bs : List Nat} (h : DecR B w f neg ex V z) (k : Kept bs w w') (hb : ∀ b ∈ bs, b < B) : DecR 0 w' f neg ex V z := by
  rcases h with ⟨hf, n, x, ao, c, h1, h2, h3, h4⟩ | h
  · refine .inl ⟨hf, n, x, ao, c, h1, h2, (h3.kept k fun b hm ho => ?_).mono (by omega), h4⟩
    have := hb b hm
    rcases h3 with ⟨h3, _⟩ | ⟨g, c', t', h3, h5, _⟩
    · rw [h3] at ho; simp [Value.ownBlock] at ho
    · rw [h3] at ho; simp [Value.ownBlock] at ho; omega
  · exact .inr h

/-- impl.told. -/
theorem told_any (b f V : Nat) (neg : Bool) (e : Int) (w : World) (h : ReadAs w b f neg e V) (hf : f = 0 ∨ f = 1 ∨ f = 3) :
    Calls Tryz.prog 23 #[.pointer (some ⟨b, 0, none⟩)] w fun r w' => ∃ z, r = .returned z ∧ DecR w.heap.size w' f neg e V z ∧ Kept [] w w' := by
  obtain ⟨ex', V', h1, h2, h3, h4, h5⟩ := h
  rcases hf with rfl | hf
  · obtain ⟨rfl, rfl⟩ := h1 rfl
    refine (told_fin b V' neg ex' w h5 h4 ⟨h2, h3⟩).mono ?_
    rintro r w' ⟨n, x, v', rfl, k1, k2, k3, k4, k5, k6⟩
    obtain ⟨ao, c, rfl⟩ := k2.shape
    exact ⟨_, rfl, .inl ⟨rfl, n, x, ao, c, rfl, k1, k2, k3, k4, k5⟩, k6⟩
  · refine (told_word b f V' neg ex' w h5 hf).mono ?_
    rintro r w' ⟨rfl, k6⟩
    exact ⟨_, rfl, .inr ⟨hf, rfl⟩, k6⟩

/-- What is read is what was written. -/
theorem txt_says {f : Nat} {neg : Bool} {V : Nat} {ex : Int} {L : List UInt8} (h : TxtP f neg V ex L) (hex : -100 ≤ ex ∧ ex ≤ 100) : ∃ l, L = sgnL neg ++ l ∧ Bare l ∧ Says f V ex (Lib.toLowerA l) := by
  rcases h with ⟨rfl, D, h1, h2, h3, h4, rfl⟩ | ⟨hf, rfl⟩
  · have hs := decShape_ok V D ex h1 h2 h3 hex
    generalize decShape V D ex = s at *
    refine ⟨_, rfl, ?_, .inl ⟨rfl, s, hs, toLower_shape hs⟩⟩
    obtain ⟨c, hc1, hc2⟩ := shape_head hs 69
    obtain ⟨c', hc1', hc2'⟩ := shape_head hs 101
    refine ⟨shape_len hs 69, shape_ascii hs, fun d hd => ?_, fun d hd => ?_, fun d hd => ?_, fun d hd => ?_⟩
    · rintro rfl; exact head_ne hc1 hc2 (by decide) hd
    · rintro rfl; exact head_ne hc1 hc2 (by decide) hd
    · rw [toLower_shape hs] at hd; rintro rfl; exact head_ne hc1' hc2' (by decide) hd
    · rw [toLower_shape hs] at hd; rintro rfl; exact head_ne hc1' hc2' (by decide) hd
  · rcases hf with rfl | rfl
    · exact ⟨_, rfl, ⟨by decide, by decide, by decide, by decide, by decide, by decide⟩, .inr (.inl ⟨rfl, by decide⟩)⟩
    · exact ⟨_, rfl, ⟨by decide, by decide, by decide, by decide, by decide, by decide⟩, .inr (.inr ⟨rfl, by decide⟩)⟩

set_option maxHeartbeats 4000000 in
/-- impl.Unmarshal of a text that Marshal has written. -/
theorem unmarshal_any (f V : Nat) (neg : Bool) (e : Int) (L : List UInt8) (v : Value) (B : Nat) (w : World) (hT : TxtP f neg V e L) (hV : V < 2 ^ (64 * 3)) (he : -100 ≤ e ∧ e ≤ 100) (hG : Glob2 w) (hf : f = 0 ∨ f = 1 ∨ f = 3) (hv : BS B w v L) :
    Calls Tryz.prog 12 #[v] w fun r w' => ∃ z, r = .returned (.tuple #[z, .bool true]) ∧ DecR 0 w' f neg e V z ∧ Kept [] w w' := by
  have hne := hT.ne he
  obtain ⟨l, hL, hB, hS⟩ := txt_says hT he
  have HL := hid hL
  have hll : L.length ≤ 410 := by have := hB.len; rw [hL]; cases neg <;> simp [sgnL] <;> omega
  have HT := hid hT
  have hs20 := hG.size
  have hk1 := (Kept.refl [] w).alloc (.cells #[.int .i64 0, .bool false, .slice none 0 0, .int .i64 0] 30)
  have hk2 := hk1.alloc (.cells #[.int .i8 0, .bool false, .int .i32 0, .bool false, .slice none 0 0, .bool false] 69)
  have hA := heap_alloc_old' (heap_alloc_new w (.cells #[.int .i64 0, .bool false, .slice none 0 0, .int .i64 0] 30)) (.cells #[.int .i8 0, .bool false, .int .i32 0, .bool false, .slice none 0 0, .bool false] 69)
  have hD := two_allocs w (.cells #[.int .i64 0, .bool false, .slice none 0 0, .int .i64 0] 30) (.cells #[.int .i8 0, .bool false, .int .i32 0, .bool false, .slice none 0 0, .bool false] 69)
  have HA := hid hA
  have HD := hid hD
  have HK2 := hid hk2
  have HG := hid hG
  have HV := hid hv
  have HB := hid hB
  have HS := hid hS
  have HVV := hid hV
  obtain ⟨ao, c, rfl⟩ := hv.shape
  clear hk1 hk2 hA hD hG hv hB hS hV hT hL
  obtain ⟨i5, hi, hz0, hz1, hz2⟩ := info_parts Tryz.info5
  go_enter Tryz.func12, Tryz.ntmps12
  go_upto_region 2 with fail
  generalize (w.alloc (.cells #[.int .i64 0, .bool false, .slice none 0 0, .int .i64 0] 30)).alloc (.cells #[.int .i8 0, .bool false, .int .i32 0, .bool false, .slice none 0 0, .bool false] 69) = W2 at *
  have hE : BS W2.heap.size (W2.alloc (.cells #[] 5)) (.slice (some ⟨W2.heap.size, 0, none⟩) 0 0) [] := .inr ⟨_, 0, 5, rfl, Nat.le_refl _, Nat.le_refl _, by omega, trivial, ⟨#[], heap_alloc_new W2 _, rfl, fun j hj => by simp at hj⟩⟩
  have hka := (Kept.refl [] W2).alloc (.cells #[] 5)
  have hSrc := ((HV.out.kept HK2.out (by simp)).kept hka (by simp)).src 40 5 Tryz.underlying40
  have HE := hid hE
  have HSRC := hid hSrc
  have hszA := hka.size
  clear hE hSrc
  go_wp2_with (at_builtin; refine wpList_append_bs _ rfl (.tmp 7) (.tmp 8) 40 40 rfl 5 i5 (.int .u8 0) Tryz.underlying40 hi hz0 hz1 hz2 rfl W2.heap.size _ _ [] L rfl HE.out rfl HSRC.out (by simp; omega) hszA ?_)
  intro v' w3 hbs hk3 hown
  have hk3' : Kept [] W2 w3 := hka.trans hk3 (ds := []) (by simp) (by simp [Value.ownBlock])
  have hd3 := hk3'.heap HD.out (by simp)
  have hA3 := hk3'.heap HA.out (by simp)
  have hG3 := HG.out.keep (HK2.out.then hk3')
  have H22 := hid (unmarshalText_any (w.heap.size + 1) f V neg e l v' W2.heap.size w3 HB.out HS.out HVV.out ⟨by omega, by omega⟩ hd3 hG3 (by omega) hf (by rw [← HL.out]; exact hbs) (by rw [← HL.out]; exact hne))
  have HA3 := hid hA3
  have HK3 := hid (HK2.out.then hk3')
  clear hka hszA hbs hk3 hown hk3' hd3 hA3 hG3 HE HSRC HA HD HV
  go_wp2_with fail
  refine (H22.out).mono ?_
  rintro r w4 ⟨rfl, hr4, hk4⟩
  have hA4 := hk4.heap HA3.out (by simp)
  have HA4 := hid hA4
  have H23 := hid (told_any (w.heap.size + 1) f V neg e w4 hr4 hf)
  have HK4 := hid (HK3.out.trans hk4 (ds := []) (by simp) (by simp))
  have hlt4 : w.heap.size < w4.heap.size := lt_of_heap hA4
  clear hr4 hk4 hA4 H22 HA3 HK3
  go_wp2_with fail
  refine (H23.out).mono ?_
  rintro r w5 ⟨z, rfl, hz, hk5⟩
  obtain ⟨zo, zn, zc, ze, rfl⟩ := hz.shape
  have hA5 := hk5.heap HA4.out (by simp)
  have a0 := cell_of_heap hA5 0
  have a1 := cell_of_heap hA5 1
  have a2 := cell_of_heap hA5 2
  have a3 := cell_of_heap hA5 3
  have fa := frozen_of_heap hA5
  have hh := heap_setCell_self (heap_setCell_self (heap_setCell_self (heap_setCell_self hA5 0 (.int .i64 f)) 1 (.bool neg)) 2 (.slice zo zn zc)) 3 (.int .i64 ze)
  have hks := (((((Kept.refl [w.heap.size] w5).setCell ⟨w.heap.size, 0, none⟩ (.int .i64 f) (.inl (by simp))).setCell ⟨w.heap.size, 1, none⟩ (.bool neg) (.inl (by simp))).setCell ⟨w.heap.size, 2, none⟩ (.slice zo zn zc) (.inl (by simp))).setCell ⟨w.heap.size, 3, none⟩ (.int .i64 ze) (.inl (by simp)))
  have hz6 := hz.kept hks (by simp; omega)
  have HH := hid hh
  have HZ := hid hz6
  have HKF := hid ((HK4.out.then hk5).trans hks (ds := []) (by simp) (by simp))
  clear hA5 hh hks hz6 hz hk5 H23 HA4 HK4
  go_wp2
  generalize (World.setCell _ ⟨w.heap.size, 3, none⟩ (.int .i64 ze)) = W5 at *
  have d0 : W5.cell? ⟨w.heap.size, 0, none⟩ = some (.int .i64 f) := (cell_of_heap HH.out 0).trans rfl
  have d1 : W5.cell? ⟨w.heap.size, 1, none⟩ = some (.bool neg) := (cell_of_heap HH.out 1).trans rfl
  have d2 : W5.cell? ⟨w.heap.size, 2, none⟩ = some (.slice zo zn zc) := (cell_of_heap HH.out 2).trans rfl
  have d3 : W5.cell? ⟨w.heap.size, 3, none⟩ = some (.int .i64 ze) := (cell_of_heap HH.out 3).trans rfl
  refine bodyPost_ret (v := .tuple #[.agg #[.int .i64 f, .bool neg, .slice zo zn zc, .int .i64 ze], .bool true]) (by simp [results, Tryz.results12, go_sem, d0, d1, d2, d3]) rfl ?_
  exact ⟨_, rfl, HZ.out, HKF.out⟩
end

section
open Go.RowKit

/-- u is such a Dec, an argument. -/
def DecU (w : World) (f : Nat) (neg : Bool) (ex : Int) (n : Nat) (x : Nat → Nat) (u : Value) : Prop :=
  (f = 0 ∧ ∃ ao c, u = .agg #[.int .i64 0, .bool neg, .slice ao n c, .int .i64 ex] ∧ n ≤ 3 ∧ n ≤ c ∧ c ≤ 9223372036854775807 ∧ (n = 0 ∨ ∃ g o, ao = some ⟨g, o, none⟩ ∧ g < w.heap.size ∧ ∀ j, j < n → w.cell? ⟨g, o + j, none⟩ = some (.int .u64 (x j : Nat))) ∧
    (∀ j, j < n → x j < 18446744073709551616) ∧ (n = 0 ∨ x (n - 1) ≠ 0)) ∨
  ((f = 1 ∨ f = 3) ∧ u = .agg #[.int .i64 f, .bool neg, .slice none 0 0, .int .i64 0])

theorem DecU.shape {w : World} {f n : Nat} {neg : Bool} {ex : Int} {x : Nat → Nat} {u : Value} (h : DecU w f neg ex n x u) : ∃ ao m c e, u = .agg #[.int .i64 f, .bool neg, .slice ao m c, .int .i64 e] := by
  rcases h with ⟨rfl, ao, c, rfl, _⟩ | ⟨_, rfl⟩
  · exact ⟨ao, n, c, ex, rfl⟩
  · exact ⟨none, 0, 0, 0, rfl⟩

theorem DecU.keep {w w' : World} {f n : Nat} {neg : Bool} {ex : Int} {x : Nat → Nat} {u : Value} (h : DecU w f neg ex n x u) (k : Kept [] w w') : DecU w' f neg ex n x u := by
  rcases h with ⟨rfl, ao, c, h1, h2, h3, h4, h5, h6⟩ | h
  · refine .inl ⟨rfl, ao, c, h1, h2, h3, h4, ?_, h6⟩
    rcases h5 with h | ⟨g, o, g1, g2, g3⟩
    · exact .inl h
    · exact .inr ⟨g, o, g1, Nat.lt_of_lt_of_le g2 k.size, fun j hj => k.cellOf (g3 j hj) (by simp)⟩
  · exact .inr h

/-- impl.made. -/
theorem made_any (f n : Nat) (neg : Bool) (ex : Int) (x : Nat → Nat) (u : Value) (w : World) (h : DecU w f neg ex n x u) (he : -100 ≤ ex ∧ ex ≤ 100) :
    Calls Tryz.prog 16 #[u] w fun e w' => ∃ b, e = .returned (.pointer (some ⟨b, 0, none⟩)) ∧ w.heap.size ≤ b ∧ DecAt w' b f neg (val x n) ex ∧ Kept [] w w' := by
  rcases h with ⟨rfl, ao, c, rfl, h2, h3, h4, h5, h6, h7⟩ | ⟨hf, rfl⟩
  · refine (made_finite neg ao n c ex x w (by omega) h3 h4 ⟨by omega, by omega⟩ h5).mono ?_
    rintro e w' ⟨b, v', m, rfl, k1, k2, k3, k4, k5⟩
    have hmn : m = n := by
      obtain ⟨l1, l2, l3⟩ := k1
      rcases Nat.lt_or_ge m n with h | h
      · have := l3 (n - 1) (by omega) (by omega)
        omega
      · omega
    subst hmn
    exact ⟨b, rfl, k2, .inl ⟨rfl, _, v', m, x, k3, h2, k4, h6, h7, rfl⟩, k5⟩
  · refine (made_word f neg (.slice none 0 0) 0 w hf ⟨_, _, _, rfl⟩).mono ?_
    rintro e w' ⟨b, rfl, k2, k3, k4⟩
    exact ⟨b, rfl, k2, .inr ⟨hf, k3⟩, k4⟩

/-- impl.Text with verb G. -/
theorem implText_any (f n : Nat) (neg : Bool) (ex : Int) (x : Nat → Nat) (u : Value) (w : World) (h : DecU w f neg ex n x u) (he : -100 ≤ ex ∧ ex ≤ 100) (hG : Glob2 w) :
    Calls Tryz.prog 13 #[u, .int .u8 71] w fun e w' => ∃ L, TxtP f neg (val x n) ex L ∧ e = .returned (.string ⟨L.toArray⟩) ∧ Kept [] w w' := by
  obtain ⟨ao, m, c, e0, rfl⟩ := h.shape
  have hka := (Kept.refl [] w).alloc (.cells #[.int .i64 f, .bool neg, .slice ao m c, .int .i64 e0] 30)
  have H16 := hid (made_any f n neg ex x _ _ (h.keep hka) he)
  have HKA := hid hka
  have HG := hid hG
  clear h hG hka
  go_enter Tryz.func13, Tryz.ntmps13
  go_wp2_with fail
  refine (H16.out).mono ?_
  rintro e w1 ⟨b, rfl, hb, hd, hk⟩
  have hk1 := HKA.out.then hk
  have H24 := hid (textG_any divOK_three b f neg (val x n) ex w1 he hd (HG.out.keep hk1))
  have HK1 := hid hk1
  clear hb hd hk hk1 H16 HKA HG
  go_wp2_with fail
  refine (H24.out).mono ?_
  rintro e w2 ⟨L, hT, rfl, hk2⟩
  have HT := hid hT
  have HK2 := hid (HK1.out.then hk2)
  clear hT hk2 H24 HK1
  go_wp2
  go_ret
  exact ⟨L, HT.out, rfl, HK2.out⟩

/-- Decimal.String. -/
theorem decString_all (b f : Nat) (neg : Bool) (V : Nat) (ex : Int) (w : World) (hex : -100 ≤ ex ∧ ex ≤ 100) (hb : DecAt w b f neg V ex) (hG : Glob2 w) :
    Calls Tryz.prog 28 #[.pointer (some ⟨b, 0, none⟩)] w fun e w' => ∃ L, TxtP f neg V ex L ∧ e = .returned (.string ⟨L.toArray⟩) ∧ Kept [] w w' := by
  have H24 := hid (textG_any divOK_three b f neg V ex w hex hb hG)
  clear hb hG
  go_enter Tryz.func28, Tryz.ntmps28
  go_wp2_with fail
  refine (H24.out).mono ?_
  rintro e w2 ⟨L, hT, rfl, hk2⟩
  have HT := hid hT
  have HK2 := hid hk2
  clear hT hk2 H24
  go_wp2
  go_ret
  exact ⟨L, HT.out, rfl, HK2.out⟩

/-- A slice of bytes, whatever its block. -/
def BytesAt (w : World) (v : Value) (L : List UInt8) : Prop := ∃ g c, v = .slice (some ⟨g, 0, none⟩) L.length c ∧ ∀ j, j < L.length → w.cell? ⟨g, j, none⟩ = some (bytesF L j)

theorem BytesAt.keep {w w' : World} {v : Value} {L : List UInt8} (h : BytesAt w v L) (k : Kept [] w w') : BytesAt w' v L := by
  obtain ⟨g, c, h1, h2⟩ := h
  exact ⟨g, c, h1, fun j hj => k.cellOf (h2 j hj) (by simp)⟩

theorem BytesAt.src {P : Program} {w : World} {v : Value} {L : List UInt8} (h : BytesAt w v L) (t e : TypeId) (hk : P.underlying t = some (.slice e)) : Src P 1 t v L.length ((List.range L.length).map (bytesF L)) w := by
  obtain ⟨g, c, rfl, h2⟩ := h
  refine Src.ofSlice _ hk ⟨g, 0, none⟩ _ _ _ (by simp) (fun j u hj => ?_) (fun u hu => ?_)
  · rw [List.getElem?_map] at hj
    obtain ⟨i, h3, rfl⟩ := Option.map_eq_some_iff.1 hj
    obtain ⟨h4, h5⟩ := List.getElem?_eq_some_iff.1 h3
    simp at h4 h5
    subst h5
    have h6 := h2 j h4
    have h7 : (⟨g, 0, none⟩ : Addr).add j = ⟨g, j, none⟩ := by
      by_cases h : j = 0
      · subst h; rfl
      · simp [Addr.add, h]
    rw [h7]
    exact h6
  · obtain ⟨i, _, rfl⟩ := List.mem_map.1 hu
    rfl

theorem bytesAt_world (w : World) (L : List UInt8) (c : Nat) : BytesAt (Lib.bytesWorld w 5 ⟨L.toArray⟩) (.slice (some ⟨w.heap.size, 0, none⟩) L.length c) L := by
  refine ⟨_, c, rfl, fun j hj => ?_⟩
  have := Lib.bytesWorld_cell w 5 ⟨L.toArray⟩ j (by show j < L.toArray.size; simpa using hj)
  rw [this]
  simp [bytesF]

set_option maxHeartbeats 4000000 in
/-- Decimal.MarshalText. -/
theorem marshalText_any (b f : Nat) (neg : Bool) (V : Nat) (ex : Int) (w : World) (hex : -100 ≤ ex ∧ ex ≤ 100) (hb : DecAt w b f neg V ex) (hG : Glob2 w) :
    Calls Tryz.prog 21 #[.pointer (some ⟨b, 0, none⟩)] w fun e w' => ∃ L v, TxtP f neg V ex L ∧ e = .returned (.tuple #[v, .nilIface]) ∧ BytesAt w' v L ∧ Kept [] w w' := by
  have H28 := hid (decString_all b f neg V ex w hex hb hG)
  clear hb hG
  go_enter Tryz.func21, Tryz.ntmps21
  go_wp2_with fail
  refine (H28.out).mono ?_
  rintro e w2 ⟨L, hT, rfl, hk2⟩
  have HT := hid hT
  have HK2 := hid hk2
  have hc : (convert 9 40 (.string ⟨L.toArray⟩)).run Tryz.prog w2 = .ok (.slice (some ⟨w2.heap.size, 0, none⟩) L.length (grownCap w2 L.length 0 5)) (Lib.bytesWorld w2 5 ⟨L.toArray⟩) := by
    have := Lib.run_convert_string_bytes w2 9 40 5 ⟨L.toArray⟩ Tryz.underlying9 Tryz.underlying40 Tryz.underlying5
    have hl : (ByteArray.mk L.toArray).size = L.length := by show L.toArray.size = _; simp
    rw [hl] at this
    exact this
  clear hT hk2 H28
  go_wp2
  go_ret2
  exact ⟨L, _, HT.out, rfl, bytesAt_world w2 L _, HK2.out.then (Kept.bytesWorld _ _)⟩

set_option maxHeartbeats 4000000 in
/-- impl.Marshal. -/
theorem marshal_any (f n : Nat) (neg : Bool) (ex : Int) (x : Nat → Nat) (u : Value) (w : World) (h : DecU w f neg ex n x u) (he : -100 ≤ ex ∧ ex ≤ 100) (hG : Glob2 w) :
    Calls Tryz.prog 11 #[u] w fun e w' => ∃ L v, TxtP f neg (val x n) ex L ∧ e = .returned (.tuple #[v, .bool true]) ∧ BS w.heap.size w' v L ∧ Kept [] w w' := by
  obtain ⟨ao, m, c, e0, rfl⟩ := h.shape
  have hka := (Kept.refl [] w).alloc (.cells #[.int .i64 f, .bool neg, .slice ao m c, .int .i64 e0] 30)
  have H16 := hid (made_any f n neg ex x _ _ (h.keep hka) he)
  have HKA := hid hka
  have HG := hid hG
  obtain ⟨i5, hi, hz0, hz1, hz2⟩ := info_parts Tryz.info5
  clear h hG hka
  go_enter Tryz.func11, Tryz.ntmps11
  go_wp2_with fail
  refine (H16.out).mono ?_
  rintro e w1 ⟨b, rfl, hb, hd, hk⟩
  have hk1 := HKA.out.then hk
  have H21 := hid (marshalText_any b f neg (val x n) ex w1 he hd (HG.out.keep hk1))
  have HK1 := hid hk1
  clear hb hd hk hk1 H16 HKA HG
  go_wp2_with fail
  refine (H21.out).mono ?_
  rintro e w2 ⟨L, v, hT, rfl, hB, hk2⟩
  have HT := hid hT
  have HK2 := hid (HK1.out.then hk2)
  have HB := hid hB
  have hLL : L.length ≤ 410 := by
    obtain ⟨l, hL, hb, _⟩ := txt_says hT he
    have := hb.len
    rw [hL]; cases neg <;> simp [sgnL] <;> omega
  obtain ⟨g, cc, rfl, _⟩ := hB
  clear hT hk2 H21 HK1
  go_wp2_with fail
  have hE : BS w2.drew.heap.size (w2.drew.alloc (.cells #[] 5)) (.slice (some ⟨w2.drew.heap.size, 0, none⟩) 0 0) [] := .inr ⟨_, 0, 5, rfl, Nat.le_refl _, Nat.le_refl _, by omega, trivial, ⟨#[], heap_alloc_new w2.drew _, rfl, fun j hj => by simp at hj⟩⟩
  have HE := hid hE
  have HSRC := hid ((HB.out.keep ((Kept.refl [] w2).drew.alloc (.cells #[] 5))).src 40 5 Tryz.underlying40)
  clear hE
  go_region_law (refine step_append_bs rfl (.tmp 12) (.tmp 13) 40 40 rfl 5 i5 (.int .u8 0) Tryz.underlying40 hi hz0 hz1 hz2 rfl w2.drew.heap.size _ _ [] L rfl HE.out rfl HSRC.out (by simp; omega) (by simp) ?_; intro v' w3 hbs hk3 hown)
  all_goals
    have hk3' : Kept [w2.heap.size] (w2.drew.alloc (.cells #[] 5)) w3 := hk3
    have hk4 := HK2.out.then (((Kept.refl [] w2).drew.alloc (.cells #[] 5)).trans hk3' (ds := []) (by simp) (by simp))
    have HK4 := hid hk4
    have HBS : Hid (BS w2.drew.heap.size w3 v' L) := hid hbs
    have hsz := HK2.out.size
    obtain ⟨vo, vc, rfl⟩ := HBS.out.shape
    clear hk3 hk3' hk4 hbs hown
    go_wp2
    go_ret2
    exact ⟨L, _, HT.out, rfl, HBS.out.mono (by simpa using hsz), HK4.out⟩
end

end Go.Proofs.YtofmickjbpkgbaaGreatDoor
