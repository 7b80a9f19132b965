import Derived.Test.YtofmickjbpkgbaaGreatDoorMl
set_option maxRecDepth 100000
namespace Go.Proofs.YtofmickjbpkgbaaGreatDoor
section
open Go.RowKit

theorem intBitLen_le (B n b o : Nat) (cur : Array Value) (t : TypeId) (fr : Nat × Nat) (va : Value) (x : Nat → Nat) (w : World) (hn : n ≤ 1000)
    (hb : w.heap[b]? = some (.cells cur t fr)) (c1 : cur[o + 1]? = some va) (hva : NatV B w va n x) (hx : ∀ j, j < n → x j < 18446744073709551616) (hnz : n = 0 ∨ x (n - 1) ≠ 0) :
    Calls Tryz.prog 57 #[.pointer (some ⟨b, o, none⟩)] w fun e w' => ∃ bl : Nat, e = .returned (.int .i64 bl) ∧ bl ≤ 64 * n ∧ w' = w := by
  have d1 : w.cell? ⟨b, o + 1, none⟩ = some va := (cell_of_heap hb (o + 1)).trans c1
  have HV := hid hva
  have HX := hid hx
  have HNZ := hid hnz
  clear hb c1 hva hx hnz
  go_enter Tryz.func57, Tryz.ntmps57
  go_wp2_with fail
  refine (bitLen_any B n va x w (by omega) HV.out HX.out HNZ.out).mono ?_
  rintro e w1 ⟨bl, rfl, hbl, hbl2, hbl3, rfl⟩
  clear hbl3
  go_wp2
  go_ret
  exact ⟨bl, rfl, hbl, rfl⟩

theorem bigBitLen_le (B n b o : Nat) (cur : Array Value) (t : TypeId) (fr : Nat × Nat) (va : Value) (x : Nat → Nat) (w : World) (hn : n ≤ 1000)
    (hb : w.heap[b]? = some (.cells cur t fr)) (c1 : cur[o + 1]? = some va) (hva : NatV B w va n x) (hx : ∀ j, j < n → x j < 18446744073709551616) (hnz : n = 0 ∨ x (n - 1) ≠ 0) :
    Calls Tryz.prog 44 #[.pointer (some ⟨b, o, none⟩)] w fun e w' => ∃ bl : Nat, e = .returned (.int .i64 bl) ∧ bl ≤ 64 * n ∧ w' = w := by
  have H := hid (intBitLen_le B n b o cur t fr va x w hn hb c1 hva hx hnz)
  clear hb c1 hva hx hnz
  go_enter Tryz.func44, Tryz.ntmps44
  go_wp2_with fail
  refine (H.out).mono ?_
  rintro e w1 ⟨bl, rfl, h1, rfl⟩
  go_wp2
  go_ret
  exact ⟨bl, rfl, h1, rfl⟩

/-- What NumDigits leaves. -/
def NDPost (w : World) (e : Ending) (w' : World) : Prop := ∃ nd : Nat, e = .returned (.int .i64 nd) ∧ nd ≤ 200 ∧ Kept [] w w'

/-- A BigInt not below 0. -/
structure BigAt (w : World) (b o V : Nat) : Prop where
  is : ∃ cur t v, w.heap[b]? = some (.cells cur t (0, 0)) ∧ t ≠ 88 ∧ cur[o]? = some (.bool false) ∧ cur[o + 1]? = some v ∧ cur[o + 2]? = some (.bool false) ∧ NumV 20 w v V

theorem BigAt.keep {w w' : World} {b o V : Nat} (h : BigAt w b o V) (k : Kept [] w w') : BigAt w' b o V := by
  obtain ⟨cur, t, v, h1, h2, h3, h4, h5, h6⟩ := h.is
  exact ⟨cur, t, v, k.heap h1 (by simp), h2, h3, h4, h5, h6.keep k⟩

theorem BigAt.lt {w : World} {b o V : Nat} (h : BigAt w b o V) : b < w.heap.size := by
  obtain ⟨cur, t, v, h1, _⟩ := h.is
  exact lt_of_heap h1

theorem BigAt.sign {w : World} {b o V : Nat} (h : BigAt w b o V) :
    Calls Tryz.prog 119 #[.pointer (some ⟨b, o, none⟩)] w fun e w' => (∃ r : Int, e = .returned (.int .i64 r) ∧ ((V = 0 ∧ r = 0) ∨ (V ≠ 0 ∧ r = 1))) ∧ w' = w := by
  obtain ⟨cur, t, v, h1, h2, h3, h4, h5, h6⟩ := h.is
  exact bigSign_any 20 b o V cur t v w h1 h3 h4 h5 h6

theorem BigAt.cmp {w : World} {b o V b' o' V' : Nat} (h : BigAt w b o V) (h' : BigAt w b' o' V') (hne : b ≠ b') (hV : V < 2 ^ (64 * 100)) :
    Calls Tryz.prog 169 #[.pointer (some ⟨b, o, none⟩), .pointer (some ⟨b', o', none⟩)] w fun e w' => (∃ r : Int, e = .returned (.int .i64 r) ∧ -1 ≤ r ∧ r ≤ 1) ∧ Kept [] w w' := by
  obtain ⟨cur, t, v, h1, h2, h3, h4, h5, h6⟩ := h.is
  obtain ⟨cur', t', v', k1, k2, k3, k4, k5, k6⟩ := h'.is
  exact bigCmp_any 20 20 b o b' o' V V' cur cur' t t' v v' w hne h1 h3 h4 h5 h6 k1 k3 k4 k5 k6 hV

/-- What a look-up leaves, as a later world sees it. -/
def Elem (w : World) (E d : Nat) : Prop := ∃ k, w.cell? ⟨E, 0, none⟩ = some (.int .i64 d) ∧ 1 ≤ d ∧ d ≤ 58 ∧ BigAt w E 1 (10 ^ k)

theorem Elem.keep {w w' : World} {E d : Nat} (h : Elem w E d) (k : Kept [] w w') : Elem w' E d := by
  obtain ⟨j, h1, h2, h3, h4⟩ := h
  exact ⟨j, k.cellOf h1 (by simp), h2, h3, h4.keep k⟩

theorem lookup_elem (i : Nat) (w : World) (h1 : 1 ≤ i) (h2 : i ≤ 128) (hG : Glob2 w) :
    Calls Tryz.prog 207 #[.int .i64 i] w fun e w' => ∃ E d : Nat, e = .returned (.pointer (some ⟨E, 0, none⟩)) ∧ w.heap.size ≤ E ∧ Elem w' E d ∧ Kept [] w w' := by
  refine (digitsLookup_any i w h1 h2 hG).mono ?_
  rintro e w' ⟨d, k, E, bv, nv, rfl, h3, h4, h5, h6, h7, h8, h9⟩
  exact ⟨E, d, rfl, h5, ⟨k, cell_of_heap h6 0, h3, h4, ⟨_, _, _, h6, by decide, rfl, rfl, rfl, h7⟩⟩, h9⟩

set_option maxHeartbeats 16000000 in
/-- apd.NumDigits of a number of three words. -/
theorem numDigits_walk (b o V : Nat) (w : World) (hb : BigAt w b o V) (hbl : Calls Tryz.prog 44 #[.pointer (some ⟨b, o, none⟩)] w fun e w' => ∃ bl : Nat, e = .returned (.int .i64 bl) ∧ bl ≤ 192 ∧ w' = w) (hV : V < 2 ^ (64 * 3)) (hG : Glob2 w) :
    Calls Tryz.prog 159 #[.pointer (some ⟨b, o, none⟩)] w (NDPost w) := by
  have HB := hid hb
  have HBL := hid hbl
  have HG := hid hG
  have hltb := hb.lt
  have hs20 := hG.size
  have HVB : Hid (V < 2 ^ (64 * 100)) := by
    obtain ⟨N, hN⟩ : ∃ N, N = 64 * 100 := ⟨_, rfl⟩
    rw [← hN]
    exact hid (lt_pow_more _ (64 * 3) N hV (by omega))
  clear hb hbl hG hV
  go_enter Tryz.func159, Tryz.ntmps159
  go_wp2_with fail
  refine (HBL.out).mono ?_
  rintro e w1 ⟨bl, rfl, h192, rfl⟩
  clear HBL
  by_cases h0 : bl = 0
  · subst h0
    clear hs20 hltb
    go_wp2
    go_ret
    exact ⟨1, rfl, by omega, Kept.refl _ _⟩
  have hb0 : ((bl : Int) == 0) = false := by simp; omega
  by_cases h128 : bl < 128
  · have hI : (bl : Int) < 128 := by omega
    have hI2 : decide ((bl : Int) < 128) = true := by simp; omega
    go_wp2_with fail
    refine (lookup_elem bl w1 (by omega) (by omega) HG.out).mono ?_
    rintro e w2 ⟨E, d, rfl, hE, hel, hk2⟩
    have HEL := hid hel
    have HK2 := hid hk2
    have cE : w2.cell? ⟨E, 0, none⟩ = some (.int .i64 d) := by obtain ⟨k, h, _⟩ := hel; exact h
    have hd58 : d ≤ 58 := by obtain ⟨k, _, _, h, _⟩ := hel; exact h
    have hbE : b ≠ E := by omega
    clear hel hk2
    have HL := hid (lookup_elem (bl + 1) w2.drew (by omega) (by omega) ((HG.out.keep HK2.out).keep (Kept.refl [] w2).drew))
    have hwr : IntKind.i64.wrap ((bl : Int) + 1) = ((bl + 1 : Nat) : Int) := by rw [IntKind.wrap_i64]; omega
    have HWR := hid hwr
    clear hwr
    go_wp2_with fail
    go_region_with (rw [HWR.out]; go_at_call 207; refine (HL.out).mono ?_; rintro e w3 ⟨E', d', rfl, hE', hel', hk3⟩; have HK3 := hid (HK2.out.drew.then hk3); have cE' := HEL.out.keep ((Kept.refl [] w2).drew.then hk3); have HEL3 := hid cE'; have cE3 : w3.cell? ⟨E, 0, none⟩ = some (.int .i64 d) := (by obtain ⟨k, h, _⟩ := cE'; exact h); have c3 : w3.cell? ⟨E', 0, none⟩ = some (.int .i64 d') := (by obtain ⟨k, h, _⟩ := hel'; exact h); have hd' : d' ≤ 58 := (by obtain ⟨k, _, _, h, _⟩ := hel'; exact h); clear hel' hk3 cE')
    all_goals
      clear HL HWR HK2 HEL cE HG
      go_wp2_with fail
      all_goals first
      | (go_ret
         exact ⟨d, rfl, by omega, HK3.out⟩)
      | (refine ((HB.out.keep HK3.out).sign).mono ?_
         rintro e w4 ⟨⟨r, rfl, hr⟩, rfl⟩
         rcases hr with ⟨hv0, rfl⟩ | ⟨hv0, rfl⟩
         · go_wp2
           go_ret
           exact ⟨d + 1, by go_num, by omega, HK3.out⟩
         · go_wp2_with fail
           obtain ⟨k, _, _, _, hbE⟩ := HEL3.out
           refine (BigAt.cmp (HB.out.keep HK3.out) hbE (by omega) HVB.out).mono ?_
           rintro e w5 ⟨⟨r, rfl, hr1, hr2⟩, hk5⟩
           have HK5 := hid (HK3.out.then hk5)
           have cE5 := hk5.cellOf cE3 (by simp)
           clear hk5
           go_wp2
           · go_ret
             exact ⟨d, rfl, by omega, HK5.out⟩
           · go_ret
             exact ⟨d + 1, by go_num, by omega, HK5.out⟩)
  by_cases h129 : bl = 128
  · subst h129
    clear h128 hb0 h0 h192
    go_wp2_with fail
    refine (lookup_elem 128 w1 (by omega) (by omega) HG.out).mono ?_
    rintro e w2 ⟨E, d, rfl, hE, hel, hk2⟩
    have HEL3 := hid hel
    have HK3 := hid hk2
    have cE : w2.cell? ⟨E, 0, none⟩ = some (.int .i64 d) := by obtain ⟨k, h, _⟩ := hel; exact h
    have hd58 : d ≤ 58 := by obtain ⟨k, _, _, h, _⟩ := hel; exact h
    have hbE : b ≠ E := by omega
    clear hel hk2
    go_wp2_with fail
    go_quiet (fail)
    have HK3 := hid (HK3.out.drewN nq)
    have HEL3 := hid (HEL3.out.keep ((Kept.refl [] w2).drewN nq))
    have cE3 := ((Kept.refl [] w2).drewN nq).cellOf cE (by simp)
    clear cE
    generalize w2.drewN nq = w3 at *
    go_wp2_with fail
    refine ((HB.out.keep HK3.out).sign).mono ?_
    rintro e w4 ⟨⟨r, rfl, hr⟩, rfl⟩
    rcases hr with ⟨hv0, rfl⟩ | ⟨hv0, rfl⟩
    · go_wp2
      go_ret
      exact ⟨d + 1, by go_num, by omega, HK3.out⟩
    · go_wp2_with fail
      obtain ⟨k, _, _, _, hb4⟩ := HEL3.out
      refine (BigAt.cmp (HB.out.keep HK3.out) hb4 hbE HVB.out).mono ?_
      rintro e w5 ⟨⟨r, rfl, hr1, hr2⟩, hk5⟩
      have HK5 := hid (HK3.out.then hk5)
      have cE5 := hk5.cellOf cE3 (by simp)
      clear hk5
      go_wp2
      · go_ret
        exact ⟨d, rfl, by omega, HK5.out⟩
      · go_ret
        exact ⟨d + 1, by go_num, by omega, HK5.out⟩
  have h128 : 128 < bl := by omega
  obtain ⟨b1, b2, b3, b4⟩ := buf_at bl h192
  have hy1 : 1 ≤ bufL bl := by
    rcases Nat.eq_zero_or_pos (bufL bl) with h | h
    · rw [h] at b4
      have : (2 : Nat) ^ 128 ≤ 2 ^ bl := Nat.pow_le_pow_right (by omega) (by omega)
      have h3 : (10 : Nat) ^ (0 + 1) < 2 ^ 128 := by decide
      omega
    · exact h
  have q1 : ∀ w, (binOp .quo 49 (.float .f64 (floatOfInt .f64 (bl : Int))) (.float .f64 4614662735865160561)).run Tryz.prog w = .ok (.float .f64 (bufQ bl)) w := fun w => run_float_arith w .quo 49 .f64 _ _ _ b1
  have q2 : ∀ w, (convert 49 2 (.float .f64 (bufQ bl))).run Tryz.prog w = .ok (.int .i64 (bufL bl : Nat)) w := fun w => run_convert_float_int w 49 2 .f64 .i64 _ _ (by kernel_rfl) Tryz.underlying2 b2
  clear b1 b2 b4
  generalize bufL bl = y at *
  generalize bufQ bl = Q0 at *
  have hT := heap_alloc_new w1 (.cells #[.bool false, .slice none 0 0, .bool false] 67)
  have hkT := (Kept.refl [] w1).alloc (.cells #[.bool false, .slice none 0 0, .bool false] 67)
  have HX := hid (tableExp10_any w1.heap.size y _ hT hy1 (by omega) (HG.out.keep hkT) hs20)
  have HKT := hid hkT
  clear hT hkT
  go_wp2_with fail
  refine (HX.out).mono ?_
  rintro e w2 ⟨rfl, v', k, hv, hk, hkp, hh⟩
  have HK2 := hid (HKT.out.trans hkp (ds := []) (by simp) (by intro x hx; simp at hx; right; omega))
  have HE2 : Hid (BigAt w2 w1.heap.size 0 (10 ^ k)) := hid ⟨_, _, _, hh, by decide, rfl, rfl, rfl, hv.mono (by simp; omega)⟩
  clear hv hkp hh HX
  go_wp2_with fail
  refine ((HB.out.keep HK2.out).sign).mono ?_
  rintro e w4 ⟨⟨r, rfl, hr⟩, rfl⟩
  rcases hr with ⟨hv0, rfl⟩ | ⟨hv0, rfl⟩
  all_goals
    go_wp2_with fail
    refine (BigAt.cmp (HB.out.keep HK2.out) HE2.out (by omega) HVB.out).mono ?_
    rintro e w5 ⟨⟨r, rfl, hr1, hr2⟩, hk5⟩
    have HK5 := hid (HK2.out.then hk5)
    clear hk5
    go_wp2
    · go_ret
      exact ⟨y + 1, by go_num, by omega, HK5.out⟩
    · go_ret
      exact ⟨y, rfl, by omega, HK5.out⟩

theorem numDigits_any (b o V : Nat) (w : World) (hb : BigAt w b o V) (hV : V < 2 ^ (64 * 3)) (hG : Glob2 w) :
    Calls Tryz.prog 159 #[.pointer (some ⟨b, o, none⟩)] w (NDPost w) := by
  obtain ⟨cur, t, v, h1, h2, h3, h4, h5, h6⟩ := hb.is
  obtain ⟨n, x, hn, g1, g2, g3, g4⟩ := h6.words hV
  have hbl := bigBitLen_le 20 n b o cur t (0, 0) v x w (by omega) h1 h4 g1 g2 g3
  exact numDigits_walk b o V w hb (hbl.mono fun e w' ⟨bl, k1, k2, k3⟩ => ⟨bl, k1, by omega, k3⟩) hV hG

/-- Decimal.NumDigits. -/
theorem decNumDigits_any (b V : Nat) (w : World) (hb : BigAt w b 3 V) (hV : V < 2 ^ (64 * 3)) (hG : Glob2 w) :
    Calls Tryz.prog 104 #[.pointer (some ⟨b, 0, none⟩)] w (NDPost w) := by
  have H := hid (numDigits_any b 3 V w hb hV hG)
  clear hb hG
  go_enter Tryz.func104, Tryz.ntmps104
  go_wp2_with fail
  refine (H.out).mono ?_
  rintro e w1 ⟨nd, rfl, h1, hk⟩
  have HK := hid hk
  clear hk
  go_wp2
  go_ret
  exact ⟨nd, rfl, h1, HK.out⟩
end

end Go.Proofs.YtofmickjbpkgbaaGreatDoor
