import Derived.Test.YtofmickjbpkgbaaGreatDoorMi
import Derived.Test.YtofmickjbpkgbaaGreatDoorMg
import Derived.Defers
import Derived.Laws.Bits64b
import Derived.Laws.MathBits
set_option maxRecDepth 100000
namespace Go.Proofs.YtofmickjbpkgbaaGreatDoor
section
open Go.RowKit

/-- nat.mul by a number of one word. -/
theorem mul_one (V y gy cy : Nat) (zv st xv : Value) (B : Nat) (w : World) (hxv : NumV B w xv V) (hV0 : V ≠ 0) (hV : V < 2 ^ (64 * 8)) (hzv : zv = .slice none 0 0 ∨ ∃ gz lz cz f, zv = .slice (some ⟨gz, 0, none⟩) lz cz ∧ cz ≤ 9223372036854775807 ∧ B ≤ gz ∧ Row w gz 88 cz f 0) (hB : B ≤ w.heap.size)
    (hy : w.cell? ⟨gy, 0, none⟩ = some (.int .u64 (y : Nat))) (hyl : y < 18446744073709551616) (hy0 : y ≠ 0) (hcy : 1 ≤ cy) :
    Calls Tryz.prog 262 #[zv, st, xv, .slice (some ⟨gy, 0, none⟩) 1 cy] w fun e w' => ∃ v', e = .returned v' ∧ NumV B w' v' (V * y) ∧ Kept zv.ownBlock.toList w w' ∧ (∀ k, v'.ownBlock = some k → zv.ownBlock = some k ∨ w.heap.size ≤ k) := by
  obtain ⟨n, x, hn, h1, h2, h3, h4⟩ := hxv.words hV
  have hn0 : n ≠ 0 := fun h => by subst h; exact hV0 h4.symm
  rcases h1 with ⟨_, h⟩ | ⟨g, c, rfl, h5, h6, h7, h8⟩
  · exact absurd h hn0
  · have H := hid (mulAddWW_pos g n c y 0 zv x B w (by omega) (by omega) h6 h7 h8 h2 hyl hy0 (by omega) hzv hB)
    rw [h4] at H
    have hnz : ((n : Int) == 0) = false := by simp; omega
    have hn1 : ¬ ((n : Int) < 1) := by omega
    clear hxv hzv h2 h3 h4 h8
    go_enter Tryz.func262, Tryz.ntmps262
    go_wp2_with fail
    refine (H.out).mono ?_
    rintro e w1 ⟨v', rfl, k1, k2, k3⟩
    have K1 := hid k1
    have K3 := hid k3
    clear k1 k3 H
    go_wp2
    go_ret
    exact ⟨v', rfl, by simpa using K1.out, k2, K3.out⟩

theorem nlz_any (x : Nat) (w : World) (h1 : x < 18446744073709551616) :
    Calls Tryz.prog 261 #[.int .u64 x] w fun e w' => e = .returned (.int .u64 (64 - Lib.bitLen x : Nat)) ∧ w' = w := by
  have hb := Lib.bitLen_le x 64 (by omega) h1
  have e1 : (64 : Int) - (Lib.bitLen ((x : Int).toNat) : Int) = ((64 - Lib.bitLen x : Nat) : Int) := by
    rw [Int.toNat_natCast]; omega
  have H := Go.Proofs.Tryz.bits_LeadingZeros (x : Int) w (by omega) (by omega)
  rw [e1] at H
  have H' := hid H
  have hb2 : 64 - Lib.bitLen x ≤ 64 := Nat.sub_le _ _
  generalize (64 - Lib.bitLen x) = b at *
  clear e1 H hb
  go_enter Tryz.func261, Tryz.ntmps261
  go_wp2_with fail
  refine (H'.out).mono ?_
  rintro e w1 ⟨rfl, rfl⟩
  go_wp2
  go_ret
  exact ⟨rfl, rfl⟩

theorem wrap_nat (z : Int) : ∃ n : Nat, IntKind.u64.wrap z = n ∧ n < 18446744073709551616 := by
  refine ⟨(IntKind.u64.wrap z).toNat, ?_, ?_⟩
  · rw [IntKind.wrap_u64]; omega
  · rw [IntKind.wrap_u64]; omega

theorem lt_pow_more (a m n : Nat) (h : a < 2 ^ m) (hmn : m ≤ n) : a < 2 ^ n := Nat.lt_of_lt_of_le h (Nat.pow_le_pow_right (by omega) hmn)

theorem exp_bound (k : Nat) (hk : k < 64) : 10 ^ k < 2 ^ (64 * 8) := by
  have h1 : (10 : Nat) ^ k ≤ 10 ^ 63 := Nat.pow_le_pow_right (by omega) (by omega)
  have h2 : (10 : Nat) ^ 63 < 2 ^ 256 := by decide
  obtain ⟨N, hN⟩ : ∃ N, N = 64 * 8 := ⟨_, rfl⟩
  rw [← hN]
  exact lt_pow_more _ 256 N (Nat.lt_of_le_of_lt h1 h2) (by omega)

theorem Room.of {B b V : Nat} {w : World} {v : Value} (h : NumV B w v V) (hV : V ≠ 0) (hb : v.ownBlock ≠ some b) : Room B w v b := by
  obtain ⟨n, x, h1, h2, h3, h4⟩ := h
  rcases h1 with ⟨rfl, rfl⟩ | ⟨g, c, rfl, h5, h6, h7, h8⟩
  · exact .inl rfl
  · have : n ≠ 0 := fun h => by subst h; exact hV h4.symm
    exact .inr ⟨g, n, c, _, rfl, h6, by omega, h7, h5, fun h => hb (by subst h; rfl), h8.congr (Nat.zero_le _) (fun _ _ => rfl)⟩

/-- What nat.expNN of ten leaves: a power of ten. -/
def ExpPost (w : World) (e : Ending) (w' : World) : Prop := ∃ v' k, e = .returned v' ∧ 1 ≤ k ∧ k < 64 ∧ NumV w.heap.size w' v' (10 ^ k) ∧ Kept [] w w'

/-- What the loop of nat.expNN holds: z is a power of ten, zz is nothing or in another row. -/
def ExpInv (B : Nat) (w wr : World) (z zz : Value) (k : Nat) : Prop := NumV B wr z (10 ^ k) ∧ (zz = .slice none 0 0 ∨ ∃ V, V ≠ 0 ∧ NumV B wr zz V ∧ ∀ b, z.ownBlock = some b → zz.ownBlock ≠ some b) ∧ Kept [] w wr

theorem ExpInv.room {B k : Nat} {w wr : World} {z zz : Value} (h : ExpInv B w wr z zz k) : ∀ b, z.ownBlock = some b → Room B wr zz b := by
  intro b hb
  rcases h.2.1 with h | ⟨V, h1, h2, h3⟩
  · exact .inl h
  · exact Room.of h2 h1 (h3 b hb)

theorem ExpInv.own {B k : Nat} {w wr : World} {z zz : Value} (h : ExpInv B w wr z zz k) : ∀ b, zz.ownBlock = some b → B ≤ b := by
  intro b hb
  rcases h.2.1 with h | ⟨V, h1, h2, h3⟩
  · rw [h] at hb; simp [Value.ownBlock] at hb
  · exact h2.own_ge hb

theorem NumV.ptr {B V : Nat} {w : World} {v : Value} (h : NumV B w v V) (hV : V ≠ 0) : ∃ g, v.ownBlock = some g := by
  obtain ⟨n, x, h1, h2, h3, h4⟩ := h
  rcases h1 with ⟨rfl, rfl⟩ | ⟨g, c, rfl, _⟩
  · exact absurd h4.symm hV
  · exact ⟨g, rfl⟩

/-- One step: a new z out of zz's place, the old z the new zz. -/
theorem ExpInv.step {B k k' : Nat} {w wr w' : World} {z zz v' : Value} (h : ExpInv B w wr z zz k) (h1 : NumV B w' v' (10 ^ k')) (h2 : Kept zz.ownBlock.toList wr w') (h3 : ∀ b, v'.ownBlock = some b → zz.ownBlock = some b ∨ wr.heap.size ≤ b)
    (hBw : w.heap.size ≤ B) : ExpInv B w w' v' z k' := by
  obtain ⟨g1, g2, g3⟩ := h
  obtain ⟨gz, hgz⟩ := g1.ptr (Nat.ne_of_gt (Nat.pow_pos (by omega)))
  have hzz : zz.ownBlock ≠ some gz := by
    rcases g2 with rfl | ⟨V, k1, k2, k3⟩
    · simp [Value.ownBlock]
    · exact k3 gz hgz
  have hlt := g1.own_lt hgz
  refine ⟨h1, .inr ⟨10 ^ k, Nat.ne_of_gt (Nat.pow_pos (by omega)), g1.kept h2 (fun b hb he => ?_), fun b hb he => ?_⟩, g3.trans h2 (by simp) (fun y hy => .inr ?_)⟩
  · rw [hgz] at he
    cases he
    exact hzz (by simpa using hb)
  · rw [hgz] at he
    cases he
    rcases h3 gz hb with h4 | h4
    · exact hzz h4
    · omega
  · rcases g2 with rfl | ⟨V, k1, k2, k3⟩
    · simp [Value.ownBlock] at hy
    · have := k2.own_ge (by simpa using hy)
      omega

theorem ExpInv.zplace {B k : Nat} {w wr : World} {z zz : Value} (h : ExpInv B w wr z zz k) : zz = .slice none 0 0 ∨ ∃ gz lz cz f, zz = .slice (some ⟨gz, 0, none⟩) lz cz ∧ cz ≤ 9223372036854775807 ∧ B ≤ gz ∧ Row wr gz 88 cz f 0 := by
  rcases h.2.1 with h | ⟨V, hV, h0, h00⟩
  · exact .inl h
  obtain ⟨n, x, h1, h2, h3, h4⟩ := h0
  rcases h1 with ⟨rfl, rfl⟩ | ⟨g, c, rfl, h5, h6, h7, h8⟩
  · exact .inl rfl
  · exact .inr ⟨g, n, c, _, rfl, h7, h5, h8.congr (Nat.zero_le _) (fun _ _ => rfl)⟩

set_option maxHeartbeats 4000000 in
theorem expNN_walk (gx cx gy cy y : Nat) (zv : Value) (w : World) (hz : zv = .slice none 0 0 ∨ ∀ w, Calls Tryz.prog 223 #[zv, .slice (some ⟨gx, 0, none⟩) 1 cx] w fun e w' => e = .returned (.bool true) ∧ Kept [] w w') (hcx : 1 ≤ cx) (hcx' : cx ≤ 9223372036854775807) (hcy : 1 ≤ cy) (hcy' : cy ≤ 9223372036854775807)
    (hX : WRow w gx cx (fun _ => 10) 1) (hY : WRow w gy cy (fun _ => y) 1) (hy2 : 2 ≤ y) (hy : y < 64) (hG : Glob2 w) :
    Calls Tryz.prog 221 #[zv, .pointer none, .slice (some ⟨gx, 0, none⟩) 1 cx, .slice (some ⟨gy, 0, none⟩) 1 cy, .slice none 0 0, .bool false] w (ExpPost w) := by
  have hx0 := hX.cell (j := 0) (by omega)
  have hy0 := hY.cell (j := 0) (by omega)
  have hxl := hX.lt
  have hyl := hY.lt
  have hy1 : ((y : Int) == 1) = false := by simp; omega
  have HX := hid hX
  have HY := hid hY
  have HG := hid hG
  clear hX hY hG
  have hx0 : w.cell? ⟨gx, 0, none⟩ = some (.int .u64 10) := hx0
  have hk0 := Kept.refl [] w
  rcases hz with rfl | hal
  all_goals
    go_enter_defers Tryz.func221, Tryz.ntmps221
    go_wp2_with (go_at_call 223; (first | refine (hal _).mono ?_ | refine (alias_nil 1 _ _ _).mono ?_); rintro e w' ⟨rfl, hk⟩; replace hx0 := hk.cellOf hx0 (by simp); replace hy0 := hk.cellOf hy0 (by simp); replace hk0 := hk0.then hk)
    clear hx0 hy0
    have hx1 := HX.out.kept hk0 (by simp)
    have hy1' := HY.out.kept hk0 (by simp)
    have hG1 := HG.out.keep hk0
    refine (getStack_any _).mono ?_
    rintro e w2 ⟨rfl, rfl⟩
    have hx2 := hx1.alloc (.cells #[.pointer none] 247)
    have hy2' := hy1'.alloc (.cells #[.pointer none] 247)
    have hk2 := (Kept.refl [] w').alloc (.cells #[.pointer none] 247)
    have hG2 := hG1.keep hk2
    have hst : (w'.alloc (.cells #[.pointer none] 247)).cell? ⟨w'.heap.size, 0, none⟩ = some (.pointer none) := World.cell?_alloc_mark w' _ _ _ _
    have hsz2 : (w'.alloc (.cells #[.pointer none] 247)).heap.size = w'.heap.size + 1 := World.size_alloc _ _
    have hk3 := hk0.then hk2
    have HX2 := hid hx2
    have HY2 := hid hy2'
    have HG2 := hid hG2
    have HST := hid hst
    have HK3 := hid hk3
    have hyc := hy2'.cell (j := 0) (by omega)
    generalize hW2 : (w'.alloc (.cells #[.pointer none] 247)) = W2 at *
    have HB2 := hid hsz2
    obtain ⟨S0, hS0⟩ : ∃ S0, S0 = w'.heap.size := ⟨_, rfl⟩
    rw [← hS0] at HST
    simp only [← hS0]
    clear hx1 hy1' hG1 hx2 hy2' hG2 hst hk3 hk2 HX HY HG hW2 hk0 hsz2 HB2 hS0
    go_wp2_with fail
    refine (set_pos none 0 1 cx _ gx (fun _ => 10) W2 (by omega) (by omega) (by omega) hcx' HX2.out).mono ?_
    rintro e w4 ⟨c4, hc4, hc4', rfl, hr4, hk4⟩
    replace hyc := hk4.cellOf hyc (by simp)
    obtain ⟨b, hb, hb1, hb5⟩ : ∃ b, Lib.bitLen y = b + 1 ∧ 1 ≤ b ∧ b ≤ 5 := by
      have h1 := Lib.bitLen_le y 6 (by omega) (by omega)
      have h2 : y < 2 ^ Lib.bitLen y := by
        have := Lib.bitLenAux_bounds 64 y (by omega) (by omega)
        have h2 : y + 1 ≤ 2 ^ Lib.bitLen y := this.2.2
        omega
      have h3 : 2 ≤ Lib.bitLen y := by
        rcases Nat.lt_or_ge (Lib.bitLen y) 2 with h | h
        · have := Nat.pow_le_pow_right (n := 2) (by omega) (show Lib.bitLen y ≤ 1 by omega)
          omega
        · exact h
      exact ⟨Lib.bitLen y - 1, by omega, by omega, by omega⟩
    go_wp2_with (go_at_call 261; refine (nlz_any y _ (by omega)).mono ?_; rw [hb]; rintro e w' ⟨rfl, rfl⟩)
    have HYC := hid hyc
    clear hb hyc
    have hinit : ExpInv W2.heap.size W2 w' (.slice (some ⟨W2.heap.size, 0, none⟩) 1 c4) (.slice none 0 0) 1 := by
      refine ⟨⟨1, fun _ => 10, .inr ⟨_, c4, rfl, Nat.le_refl _, hc4, by omega, hr4⟩, fun _ _ => by show (10 : Nat) < _; decide, .inr (by decide), by simp [val]⟩, .inl rfl, hk4⟩
    have HI := hid hinit
    clear hinit hr4 hk4
    go_loopw [0, 15, 19, 21] (fun z v zz j wr => ∃ (i k m : Nat), v = .int .u64 m ∧ m < 18446744073709551616 ∧ j = .int .i64 i ∧ i ≤ b ∧ Hid (k < 2 ^ (i + 1)) ∧ Hid (1 ≤ k) ∧ Hid (ExpInv W2.heap.size W2 wr z zz k)) (fun _ _ _ j _ => b - (intOf j).toNat)
    case atStart =>
      obtain ⟨m, hm1, hm2⟩ := wrap_nat ((y : Int) * 2 ^ (63 - b + 1))
      exact ⟨0, 1, m, by rw [hm1], hm2, rfl, by omega, hid (by decide), hid (by decide), HI⟩
    case round =>
      obtain ⟨i, k, m, rfl, hm, rfl, hib, HK, HK1, HI⟩ := hrel
      go_wp2_with fail
      · have hib' : i < b := by omega
        have hk31 : k < 32 := Nat.lt_of_lt_of_le HK.out (show 2 ^ (i + 1) ≤ 2 ^ 5 from Nat.pow_le_pow_right (by omega) (by omega))
        have hszr := HI.out.2.2.size
        have hs20 := HG2.out.size
        refine (sqr_any (10 ^ k) _ _ _ W2.heap.size wr HI.out.1 (Nat.ne_of_gt (Nat.pow_pos (by omega))) (exp_bound k (by omega)) HI.out.room hszr HI.out.own hs20 (HG2.out.keep HI.out.2.2).sq (HG2.out.keep HI.out.2.2).ksq).mono ?_
        rintro e w5 ⟨v', rfl, hv5, hk5, ho5⟩
        rw [← Nat.pow_add] at hv5
        have HI5 := hid (HI.out.step hv5 hk5 (fun b hb => (ho5 b hb).1) (Nat.le_refl _))
        clear hv5 hk5 ho5
        have hba := Go.bits_and_u64_nat m 9223372036854775808 hm (by omega)
        generalize m &&& 9223372036854775808 = q at *
        go_wp2_with fail
        · have hk5 := HI5.out.2.2
          refine (mul_one (10 ^ (k + k)) 10 gx cx u0 _ v' W2.heap.size w5 HI5.out.1 (Nat.ne_of_gt (Nat.pow_pos (by omega))) (exp_bound (k + k) (by omega)) ?_ hk5.size (hk5.cellOf (HX2.out.cell (j := 0) (by omega)) (by simp)) (by omega) (by omega) hcx).mono ?_
          · exact HI5.out.zplace
          rintro e w6 ⟨v6, rfl, hv6, hk6, ho6⟩
          have HI6 : Hid (ExpInv W2.heap.size W2 w6 v6 v' (k + k + 1)) := hid (HI5.out.step hv6 hk6 ho6 (Nat.le_refl _))
          clear hv6 hk6 ho6 HI5 HI hk5
          obtain ⟨m', hm1, hm2⟩ := wrap_nat ((m : Int) * 2)
          go_wp2
          go_round
          case rel =>
            exact ⟨i + 1, k + k + 1, m', rfl, hm2, by go_num, by omega, hid (by rw [Nat.pow_succ]; have := HK.out; omega), hid (by omega), HI6⟩
          case measure => simp [intOf]; omega
        · clear HI
          obtain ⟨m', hm1, hm2⟩ := wrap_nat ((m : Int) * 2)
          go_wp2
          go_round
          case rel => exact ⟨i + 1, k + k, m', by rw [hm1], hm2, by go_num, by omega, hid (by rw [Nat.pow_succ]; have := HK.out; omega), hid (by have := HK1.out; omega), HI5⟩
          case measure => simp [intOf]; omega
      · have hk3 := HI.out.2.2
        have HST3 := hid (hk3.cellOf HST.out (by simp))
        go_loop [0, 22] (fun z i => z = u0 ∧ i = .int .i64 (-1)) (fun _ _ => 0)
        case atStart => exact ⟨rfl, rfl⟩
        case round =>
          obtain ⟨rfl, rfl⟩ := hrel
          go_wp2_with fail
          obtain ⟨n, x, h1, h2, h3, h4⟩ := HI.out.1
          refine (norm_nat _ n _ x _ h1).mono ?_
          rintro e w7 ⟨n', ao, c, rfl, rfl, hn, hv, rfl⟩
          go_wp2
          refine leaves_cons (f := 125) (args := #[.pointer (some ⟨S0, 0, none⟩)]) (by simp) (by simp [go_sem]) ?_
          refine (free_deferred _ _ _ HST3.out).mono ?_
          rintro e u w8 ⟨rfl, rfl, rfl⟩
          have hk31 : k < 64 := Nat.lt_of_lt_of_le HK.out (show 2 ^ (i + 1) ≤ 2 ^ 6 from Nat.pow_le_pow_right (by omega) (by omega))
          refine ⟨_, results_tmp rfl _ _ _, .slice ao n' c, k, rfl, HK1.out, hk31, ⟨n', x, hv.mono HK3.out.size, fun j hj => h2 j (Nat.lt_of_lt_of_le hj hn.1), hn.2.1, (val_norm hn).symm.trans h4⟩, HK3.out.then hk3⟩
end

section
open Go.RowKit

theorem expNN_one (gx cx gy cy : Nat) (zv : Value) (w : World) (hz : zv = .slice none 0 0 ∨ ∀ w, Calls Tryz.prog 223 #[zv, .slice (some ⟨gx, 0, none⟩) 1 cx] w fun e w' => e = .returned (.bool true) ∧ Kept [] w w') (hcx : 1 ≤ cx) (hcx' : cx ≤ 9223372036854775807) (hcy : 1 ≤ cy) (hcy' : cy ≤ 9223372036854775807)
    (hX : WRow w gx cx (fun _ => 10) 1) (hY : WRow w gy cy (fun _ => 1) 1) :
    Calls Tryz.prog 221 #[zv, .pointer none, .slice (some ⟨gx, 0, none⟩) 1 cx, .slice (some ⟨gy, 0, none⟩) 1 cy, .slice none 0 0, .bool false] w (ExpPost w) := by
  have hx0 := hX.cell (j := 0) (by omega)
  have hy0 := hY.cell (j := 0) (by omega)
  have hxl := hX.lt
  have hyl := hY.lt
  have HX := hid hX
  have HY := hid hY
  clear hX hY
  have hx0 : w.cell? ⟨gx, 0, none⟩ = some (.int .u64 10) := hx0
  have hy0 : w.cell? ⟨gy, 0, none⟩ = some (.int .u64 1) := hy0
  have hk0 := Kept.refl [] w
  rcases hz with rfl | hal
  all_goals
    go_enter_defers Tryz.func221, Tryz.ntmps221
    go_wp2_with (first | (go_at_call 223; (first | refine (hal _).mono ?_ | refine (alias_nil 1 _ _ _).mono ?_); rintro e w' ⟨rfl, hk⟩; replace hx0 := hk.cellOf hx0 (by simp); replace hy0 := hk.cellOf hy0 (by simp); replace hk0 := hk0.then hk) | (go_at_call 45; refine (set_pos none 0 1 cx _ gx (fun _ => 10) _ (by omega) (by omega) (by omega) hcx' (HX.out.kept hk0 (by simp))).mono ?_; rintro e w4 ⟨c4, hc4, hc4', rfl, hr4, hk4⟩))
    refine ⟨_, results_tmp rfl _ _ _, .slice _ 1 c4, 1, rfl, by omega, by omega, ⟨1, fun _ => 10, .inr ⟨_, c4, rfl, hk0.size, hc4, by omega, hr4⟩, fun _ _ => by show (10 : Nat) < _; decide, .inr (by decide), by simp [val]⟩, hk0.then hk4⟩

theorem NumV.one {B k : Nat} {w : World} {v : Value} (h : NumV B w v k) (h0 : k ≠ 0) (hk : k < 18446744073709551616) :
    ∃ g c, v = .slice (some ⟨g, 0, none⟩) 1 c ∧ B ≤ g ∧ 1 ≤ c ∧ c ≤ 9223372036854775807 ∧ WRow w g c (fun _ => k) 1 := by
  obtain ⟨n, x, hn, h1, h2, h3, h4⟩ := h.words (L := 1) (by omega)
  have hn0 : n ≠ 0 := fun h => by subst h; exact h0 h4.symm
  obtain rfl : n = 1 := by omega
  rcases h1 with ⟨_, h⟩ | ⟨g, c, rfl, h5, h6, h7, h8⟩
  · omega
  · refine ⟨g, c, rfl, h5, h6, h7, h8.congr (Nat.le_refl _) fun j hj => ?_⟩
    obtain rfl : j = 0 := by omega
    have : x 0 = k := by simpa [val] using h4
    rw [this]

theorem expNN_any (B y : Nat) (xv yv zv : Value) (w : World) (hx : NumV B w xv 10) (hy : NumV B w yv y) (h1 : 1 ≤ y) (h2 : y < 64) (hz : zv = .slice none 0 0 ∨ ∃ g, zv = xv ∧ xv = .slice (some ⟨g, 0, none⟩) 1 1) (hG : Glob2 w) :
    Calls Tryz.prog 221 #[zv, .pointer none, xv, yv, .slice none 0 0, .bool false] w (ExpPost w) := by
  obtain ⟨gx, cx, rfl, hxB, hcx, hcx', hX⟩ := hx.one (by omega) (by omega)
  obtain ⟨gy, cy, rfl, hyB, hcy, hcy', hY⟩ := hy.one (by omega) (by omega)
  have hz' : zv = .slice none 0 0 ∨ ∀ w, Calls Tryz.prog 223 #[zv, .slice (some ⟨gx, 0, none⟩) 1 cx] w fun e w' => e = .returned (.bool true) ∧ Kept [] w w' := by
    rcases hz with h | ⟨g, h3, h4⟩
    · exact .inl h
    · rw [h3, h4]
      exact .inr fun w => alias_self g w
  by_cases h : y = 1
  · subst h
    exact expNN_one gx cx gy cy zv w hz' hcx hcx' hcy hcy' hX hY
  · exact expNN_walk gx cx gy cy y zv w hz' hcx hcx' hcy hcy' hX hY (by omega) h2 hG

/-- Int.exp of ten, z nil or x's own. -/
theorem intExp_walk (bz oz bx ox bY oY y : Nat) (zneg : Bool) (xv yv zv : Value) (cz cx cy : Array Value) (tz tx ty : TypeId) (w : World)
    (hbz : w.heap[bz]? = some (.cells cz tz (0, 0))) (z0 : cz[oz]? = some (.bool zneg)) (z1 : cz[oz + 1]? = some zv)
    (hbx : w.heap[bx]? = some (.cells cx tx (0, 0))) (x0 : cx[ox]? = some (.bool false)) (x1 : cx[ox + 1]? = some xv)
    (hby : w.heap[bY]? = some (.cells cy ty (0, 0))) (y0 : cy[oY]? = some (.bool false)) (y1 : cy[oY + 1]? = some yv)
    (hx : NumV 20 w xv 10) (hy : NumV 20 w yv y) (h1 : 1 ≤ y) (h2 : y < 64) (hz : zv = .slice none 0 0 ∨ ∃ g, zv = xv ∧ xv = .slice (some ⟨g, 0, none⟩) 1 1) (hxz : bx ≠ bz ∨ ox ≠ oz + 1) (hG : Glob2 w) :
    Calls Tryz.prog 291 #[.pointer (some ⟨bz, oz, none⟩), .pointer (some ⟨bx, ox, none⟩), .pointer (some ⟨bY, oY, none⟩), .pointer none, .bool false] w fun e w' => e = .returned (.pointer (some ⟨bz, oz, none⟩)) ∧
      ∃ v' w1 k, 1 ≤ k ∧ k < 64 ∧ NumV w.heap.size w1 v' (10 ^ k) ∧ Kept [] w w1 ∧ w' = (w1.setCell ⟨bz, oz + 1, none⟩ v').setCell ⟨bz, oz, none⟩ (.bool false) := by
  have Z0 := (cell_of_heap hbz oz).trans z0
  have Z1 := (cell_of_heap hbz (oz + 1)).trans z1
  have X0 := (cell_of_heap hbx ox).trans x0
  have X1 := (cell_of_heap hbx (ox + 1)).trans x1
  have Y0 := (cell_of_heap hby oY).trans y0
  have Y1 := (cell_of_heap hby (oY + 1)).trans y1
  have fz0 := frozen_of_heap hbz oz
  have fz1 := frozen_of_heap hbz (oz + 1)
  have HB := hid hbz
  have H := hid (expNN_any 20 y xv yv zv w hx hy h1 h2 hz hG)
  obtain ⟨axo, nx, cx', rfl⟩ := hx.shape
  obtain ⟨ayo, ny, cy', rfl⟩ := hy.shape
  have hzs : ∃ ao n c, zv = .slice ao n c := by
    rcases hz with rfl | ⟨g, rfl, h⟩
    · exact ⟨_, _, _, rfl⟩
    · exact ⟨_, _, _, rfl⟩
  obtain ⟨azo, nz, cz', rfl⟩ := hzs
  clear hbz z0 z1 hbx x0 x1 hby y0 y1 hx hy hz hG
  go_enter Tryz.func291, Tryz.ntmps291
  go_wp2_with fail
  refine (H.out).mono ?_
  rintro e w1 ⟨v', k, rfl, hk1, hk2, hv, hkp⟩
  have hV0 : (10 : Nat) ^ k ≠ 0 := Nat.ne_of_gt (Nat.pow_pos (by omega))
  have hvs := hv
  obtain ⟨n, x, g1, _, _, g4⟩ := hvs
  obtain ⟨ao, cc, rfl⟩ := g1.shape
  have hn : 0 < n := by
    rcases Nat.eq_zero_or_pos n with h | h
    · subst h; exact absurd g4.symm hV0
    · exact h
  have k0 := hkp.cellOf Z0 (by simp)
  have k1 := hkp.cellOf Z1 (by simp)
  have k2 := (hkp.frozen (p := ⟨bz, oz, none⟩) (lt_of_heap HB.out) (by simp)).trans fz0
  have k3 := (hkp.frozen (p := ⟨bz, oz + 1, none⟩) (lt_of_heap HB.out) (by simp)).trans fz1
  have kx := hkp.cellOf X0 (by simp)
  have kx' : (w1.setCell ⟨bz, oz + 1, none⟩ (.slice ao n cc)).cell? ⟨bx, ox, none⟩ = some (.bool false) := by
    rw [cell_set_ne]
    · exact kx
    · intro h
      cases h
      rcases hxz with h | h
      · exact h rfl
      · exact h rfl
  have HV := hid hv
  have HK := hid hkp
  clear hv hkp Z0 Z1 X0 X1 Y0 Y1 fz0 fz1 g1 g4 hV0 kx
  go_wp2
  go_ret
  exact ⟨rfl, _, w1, k, hk1, hk2, HV.out, HK.out, rfl⟩

theorem intExp_any (bz oz bx ox bY oY y : Nat) (zneg : Bool) (xv yv zv : Value) (cz cx cy : Array Value) (tz tx ty : TypeId) (w : World)
    (hbz : w.heap[bz]? = some (.cells cz tz (0, 0))) (z0 : cz[oz]? = some (.bool zneg)) (z1 : cz[oz + 1]? = some zv)
    (hbx : w.heap[bx]? = some (.cells cx tx (0, 0))) (x0 : cx[ox]? = some (.bool false)) (x1 : cx[ox + 1]? = some xv)
    (hby : w.heap[bY]? = some (.cells cy ty (0, 0))) (y0 : cy[oY]? = some (.bool false)) (y1 : cy[oY + 1]? = some yv)
    (hx : NumV 20 w xv 10) (hy : NumV 20 w yv y) (h1 : 1 ≤ y) (h2 : y < 64) (hz : zv = .slice none 0 0 ∨ ∃ g, zv = xv ∧ xv = .slice (some ⟨g, 0, none⟩) 1 1) (hxz : bx ≠ bz ∨ ox ≠ oz + 1) (hG : Glob2 w) (ht : tz ≠ 88) :
    Calls Tryz.prog 251 #[.pointer (some ⟨bz, oz, none⟩), .pointer (some ⟨bx, ox, none⟩), .pointer (some ⟨bY, oY, none⟩), .pointer none] w fun e w' => e = .returned (.pointer (some ⟨bz, oz, none⟩)) ∧
      ∃ v' k, 1 ≤ k ∧ k < 64 ∧ NumV w.heap.size w' v' (10 ^ k) ∧ Kept [bz] w w' ∧ w'.heap[bz]? = some (.cells ((cz.setIfInBounds (oz + 1) v').setIfInBounds oz (.bool false)) tz (0, 0)) := by
  have H := hid (intExp_walk bz oz bx ox bY oY y zneg xv yv zv cz cx cy tz tx ty w hbz z0 z1 hbx x0 x1 hby y0 y1 hx hy h1 h2 hz hxz hG)
  have HB := hid hbz
  clear hbz z0 z1 hbx x0 x1 hby y0 y1 hx hy hz hG
  go_enter Tryz.func251, Tryz.ntmps251
  go_wp2_with fail
  refine (H.out).mono ?_
  rintro e w' ⟨rfl, v', w1, k, hk1, hk2, hv, hkp, rfl⟩
  have h2 := two_stores hkp HB.out (oz + 1) oz v' (.bool false)
  have hv2 := hv.store (hkp.heap HB.out (by simp)) ht (((Kept.refl [bz] w1).setCell ⟨bz, oz + 1, none⟩ v' (.inl (by simp))).setCell ⟨bz, oz, none⟩ (.bool false) (.inl (by simp)))
  have HV := hid hv2
  have H2 := hid h2
  clear hv hkp hv2 h2
  generalize (w1.setCell ⟨bz, oz + 1, none⟩ v').setCell ⟨bz, oz, none⟩ (.bool false) = w2 at *
  go_wp2
  go_ret
  exact ⟨rfl, v', k, hk1, hk2, HV.out, H2.out.1, H2.out.2⟩

/-- BigInt.Exp of ten, z nil or x itself. -/
theorem bigExp_any (bz oz bx ox bY oY y : Nat) (zneg zm : Bool) (xv yv zv : Value) (cz cx cy : Array Value) (tz tx ty : TypeId) (w : World)
    (hbz : w.heap[bz]? = some (.cells cz tz (0, 0))) (z0 : cz[oz]? = some (.bool zneg)) (z1 : cz[oz + 1]? = some zv) (z2 : cz[oz + 2]? = some (.bool zm))
    (hbx : w.heap[bx]? = some (.cells cx tx (0, 0))) (x0 : cx[ox]? = some (.bool false)) (x1 : cx[ox + 1]? = some xv)
    (hby : w.heap[bY]? = some (.cells cy ty (0, 0))) (y0 : cy[oY]? = some (.bool false)) (y1 : cy[oY + 1]? = some yv)
    (hx : NumV 20 w xv 10) (hy : NumV 20 w yv y) (h1 : 1 ≤ y) (h2 : y < 64) (hz : zv = .slice none 0 0 ∨ ∃ g, zv = xv ∧ xv = .slice (some ⟨g, 0, none⟩) 1 1) (hxz : bx ≠ bz ∨ ox = oz) (hyz : bY ≠ bz) (hG : Glob2 w) (ht : tz ≠ 88) (hb20 : 20 ≤ bz) :
    Calls Tryz.prog 218 #[.pointer (some ⟨bz, oz, none⟩), .pointer (some ⟨bx, ox, none⟩), .pointer (some ⟨bY, oY, none⟩)] w fun e w' => e = .returned (.pointer (some ⟨bz, oz, none⟩)) ∧
      ∃ v' k, 1 ≤ k ∧ k < 64 ∧ NumV w.heap.size w' v' (10 ^ k) ∧ Kept [bz] w w' ∧ w'.heap[bz]? = some (.cells (((cz.setIfInBounds (oz + 2) (.bool false)).setIfInBounds (oz + 1) v').setIfInBounds oz (.bool false)) tz (0, 0)) := by
  have Z2 := (cell_of_heap hbz (oz + 2)).trans z2
  have fz2 := frozen_of_heap hbz (oz + 2)
  have hb1 := heap_setCell_self hbz (oz + 2) (.bool false)
  have C0 : (cz.setIfInBounds (oz + 2) (.bool false))[oz]? = some (.bool zneg) := get_set_ne (by omega) z0
  have C1 : (cz.setIfInBounds (oz + 2) (.bool false))[oz + 1]? = some zv := get_set_ne (by omega) z1
  have hk1 := (Kept.refl [bz] w).setCell ⟨bz, oz + 2, none⟩ (.bool false) (.inl (by simp))
  have hbx' : ∃ cx' tx', (w.setCell ⟨bz, oz + 2, none⟩ (.bool false)).heap[bx]? = some (.cells cx' tx' (0, 0)) ∧ cx'[ox]? = some (.bool false) ∧ cx'[ox + 1]? = some xv := by
    by_cases h : bx = bz
    · subst h
      rw [hbx] at hbz
      cases hbz
      have : ox = oz := by rcases hxz with h | h; exact absurd rfl h; exact h
      subst this
      exact ⟨_, _, hb1, get_set_ne (by omega) x0, get_set_ne (by omega) x1⟩
    · exact ⟨cx, tx, hk1.heap hbx (by simpa using h), x0, x1⟩
  obtain ⟨cx', tx', gx1, gx2, gx3⟩ := hbx'
  have hv1 := hx.store hbz ht hk1
  have hv2 := hy.store hbz ht hk1
  have H := hid (intExp_any bz oz bx ox bY oY y zneg xv yv zv _ cx' cy tz tx' ty ((w.setCell ⟨bz, oz + 2, none⟩ (.bool false)).drew) hb1 C0 C1 gx1 gx2 gx3 (hk1.heap hby (by simpa using hyz)) y0 y1 hv1 hv2 h1 h2 hz (by omega) ((hG.kept hk1 (by simpa using hb20)).keep ((Kept.refl [] _).drew)) ht)
  have HK1 := hid hk1
  clear hbz z0 z1 z2 hbx x0 x1 hby y0 y1 hx hy hz hG hb1 C0 C1 gx1 gx2 gx3 hv1 hv2 hk1
  go_enter Tryz.func218, Tryz.ntmps218
  go_wp2_with fail
  go_region_with (go_at_call 251; refine (H.out).mono ?_; rintro e w2 ⟨rfl, v', k, hk1, hk2, hv, hkp, hh⟩; have HV := hid hv; have HK := hid hkp; have HH := hid hh; clear hv hkp hh)
  go_wp2
  go_ret
  exact ⟨rfl, v', k, hk1, hk2, by simpa using HV.out, HK1.out.drew.trans HK.out (by simp) (by simp), HH.out⟩

theorem bigTen_any (w : World) :
    Calls Tryz.prog 178 #[] w fun e w' => ∃ v', e = .returned (.pointer (some ⟨w.heap.size, 0, none⟩)) ∧ NumV (w.heap.size + 1) w' v' 10 ∧ Kept [] w w' ∧
      w'.heap[w.heap.size]? = some (.cells #[.bool false, v', .bool false] 67 (0, 0)) := by
  have H := hid (newBigInt_any 10 w (by omega))
  go_enter Tryz.func178, Tryz.ntmps178
  go_wp2_with fail
  refine (H.out).mono ?_
  rintro e w1 ⟨v', rfl, hv, _, hk, hh⟩
  have HV := hid hv
  have HK := hid hk
  have HH := hid hh
  clear hv hk hh
  go_wp2
  go_ret
  exact ⟨v', rfl, HV.out, HK.out, HH.out⟩

/-- setBigWithPow onto a new BigInt. -/
theorem setBigWithPow_any (bz y : Nat) (w : World) (hbz : w.heap[bz]? = some (.cells #[.bool false, .slice none 0 0, .bool false] 67 (0, 0))) (h1 : 1 ≤ y) (h2 : y < 64) (hG : Glob2 w) (hb20 : 20 ≤ bz) :
    Calls Tryz.prog 175 #[.pointer (some ⟨bz, 0, none⟩), .int .i64 y] w fun e w' => e = .returned (.tuple #[]) ∧
      ∃ v' k, NumV w.heap.size w' v' (10 ^ k) ∧ k < 64 ∧ Kept [bz] w w' ∧ w'.heap[bz]? = some (.cells #[.bool false, v', .bool false] 67 (0, 0)) := by
  have HB := hid hbz
  have HG := hid hG
  have hlt := lt_of_heap hbz
  have hs20 := hG.size
  have hk0 := (Kept.refl [] w).alloc (.cells #[.bool false, .slice none 0 0, .bool false] 67)
  have H := hid (bigSetInt64_any w.heap.size 0 y false false _ 67 _ (by omega) (heap_alloc_new w (.cells #[.bool false, .slice none 0 0, .bool false] 67)) rfl rfl rfl (by decide))
  have HK0 := hid hk0
  clear hbz hG hk0
  go_enter Tryz.func175, Tryz.ntmps175
  go_wp2_with fail
  refine (H.out).mono ?_
  rintro e w1 ⟨rfl, v1, hv1, _, hk1, hh1⟩
  have hk1' : Kept [] w w1 := HK0.out.trans hk1 (by simp) (by simp)
  have hv1' : NumV w.heap.size w1 v1 y := hv1.mono (by simp)
  have hh1' : w1.heap[w.heap.size]? = some (.cells #[.bool false, v1, .bool false] 67 (0, 0)) := by simpa using hh1
  have HV1 := hid hv1'
  have HK1 := hid hk1'
  have HH1 := hid hh1'
  have hs1 : w.heap.size < w1.heap.size := lt_of_heap hh1'
  clear H hv1 hk1 hh1 hv1' hk1' hh1' HK0
  go_wp2_with fail
  refine (bigTen_any w1).mono ?_
  rintro e w2 ⟨v2, rfl, hv2, hk2, hh2⟩
  have hk2' : Kept [] w w2 := HK1.out.then hk2
  have H := hid (bigExp_any bz 0 w1.heap.size 0 w.heap.size 0 y false false v2 v1 (.slice none 0 0) _ _ _ 67 67 67 w2 (hk2'.heap HB.out (by simp)) rfl rfl rfl hh2 rfl rfl (hk2.heap HH1.out (by simp)) rfl rfl (hv2.mono (by omega)) ((HV1.out.keep hk2).mono (by omega)) h1 h2 (.inl rfl) (.inl (by omega)) (by omega) (HG.out.keep hk2') (by decide) hb20)
  have HK2 := hid hk2'
  clear hv2 hk2 hh2 hk2'
  go_wp2_with fail
  refine (H.out).mono ?_
  rintro e w3 ⟨rfl, v', k, hk1, hk2, hv, hkp, hh⟩
  have HV := hid (hv.mono HK2.out.size)
  have HK := hid (HK2.out.trans hkp (ds := [bz]) (by simp) (by simp))
  have HH := hid hh
  clear hv hkp hh H
  go_wp2
  go_end0
  exact ⟨rfl, v', k, HV.out, hk2, HK.out, by simpa using HH.out⟩

theorem tableExp10_any (bz y : Nat) (w : World) (hbz : w.heap[bz]? = some (.cells #[.bool false, .slice none 0 0, .bool false] 67 (0, 0))) (h1 : 1 ≤ y) (h2 : y < 64) (hG : Glob2 w) (hb20 : 20 ≤ bz) :
    Calls Tryz.prog 117 #[.int .i64 y, .pointer (some ⟨bz, 0, none⟩)] w fun e w' => e = .returned (.pointer (some ⟨bz, 0, none⟩)) ∧
      ∃ v' k, NumV w.heap.size w' v' (10 ^ k) ∧ k < 64 ∧ Kept [bz] w w' ∧ w'.heap[bz]? = some (.cells #[.bool false, v', .bool false] 67 (0, 0)) := by
  have H := hid (setBigWithPow_any bz y w hbz h1 h2 hG hb20)
  clear hbz hG
  go_enter Tryz.func117, Tryz.ntmps117
  go_wp2_with fail
  refine (H.out).mono ?_
  rintro e w1 ⟨rfl, v', k, hv, hk, hkp, hh⟩
  have HV := hid hv
  have HK := hid hkp
  have HH := hid hh
  clear hv hkp hh
  go_wp2
  go_ret
  exact ⟨rfl, v', k, HV.out, hk, HK.out, HH.out⟩
end

end Go.Proofs.YtofmickjbpkgbaaGreatDoor
