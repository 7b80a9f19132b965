import Derived.Test.YtofmickjbpkgbaaGreatDoorMk
import Derived.Lib.SliceRun
import Derived.Test.YtofmickjbpkgbaaGreatDoorMh
set_option maxRecDepth 100000
namespace Go.Proofs.YtofmickjbpkgbaaGreatDoor
section
open Go.RowKit

theorem intSign_any (B b o V : Nat) (cur : Array Value) (t : TypeId) (v : Value) (w : World) (hb : w.heap[b]? = some (.cells cur t (0, 0))) (h0 : cur[o]? = some (.bool false)) (h1 : cur[o + 1]? = some v) (hv : NumV B w v V) :
    Calls Tryz.prog 177 #[.pointer (some ⟨b, o, none⟩)] w fun e w' => (∃ r : Int, e = .returned (.int .i64 r) ∧ ((V = 0 ∧ r = 0) ∨ (V ≠ 0 ∧ r = 1))) ∧ w' = w := by
  have z0 := (cell_of_heap hb o).trans h0
  have z1 := (cell_of_heap hb (o + 1)).trans h1
  obtain ⟨n, x, g1, _, g3, g4⟩ := hv
  obtain ⟨ao, cc, rfl⟩ := g1.shape
  by_cases hn : n = 0
  · subst hn
    have hV : V = 0 := g4.symm
    clear hb g1 g3 g4
    go_enter Tryz.func177, Tryz.ntmps177
    go_wp2
    go_ret
    exact ⟨⟨_, rfl, .inl ⟨hV, rfl⟩⟩, rfl⟩
  · have hn' : ((n : Int) == 0) = false := by simp; omega
    have hV : V ≠ 0 := by
      have := val_pos x n (by omega) (by rcases g3 with h | h; exact absurd h hn; exact h)
      omega
    clear hb g1 g3 g4
    go_enter Tryz.func177, Tryz.ntmps177
    go_wp2
    go_ret
    exact ⟨⟨_, rfl, .inr ⟨hV, rfl⟩⟩, rfl⟩

theorem bigSign_any (B b o V : Nat) (cur : Array Value) (t : TypeId) (v : Value) (w : World) (hb : w.heap[b]? = some (.cells cur t (0, 0))) (h0 : cur[o]? = some (.bool false)) (h1 : cur[o + 1]? = some v) (h2 : cur[o + 2]? = some (.bool false)) (hv : NumV B w v V) :
    Calls Tryz.prog 119 #[.pointer (some ⟨b, o, none⟩)] w fun e w' => (∃ r : Int, e = .returned (.int .i64 r) ∧ ((V = 0 ∧ r = 0) ∨ (V ≠ 0 ∧ r = 1))) ∧ w' = w := by
  have H := hid (intSign_any B b o V cur t v w hb h0 h1 hv)
  have z2 := (cell_of_heap hb (o + 2)).trans h2
  clear hb h0 h1 h2 hv
  go_enter Tryz.func119, Tryz.ntmps119
  go_wp2_with fail
  refine (H.out).mono ?_
  rintro e w1 ⟨⟨r, rfl, hr⟩, rfl⟩
  go_wp2
  go_ret
  exact ⟨⟨r, rfl, hr⟩, rfl⟩

theorem intCmp_any (B B' b o b' o' V V' : Nat) (cur cur' : Array Value) (t t' : TypeId) (v v' : Value) (w : World) (hne : b ≠ b')
    (hb : w.heap[b]? = some (.cells cur t (0, 0))) (h0 : cur[o]? = some (.bool false)) (h1 : cur[o + 1]? = some v) (hv : NumV B w v V)
    (hb' : w.heap[b']? = some (.cells cur' t' (0, 0))) (h0' : cur'[o']? = some (.bool false)) (h1' : cur'[o' + 1]? = some v') (hv' : NumV B' w v' V') (hV : V < 2 ^ (64 * 100)) :
    Calls Tryz.prog 213 #[.pointer (some ⟨b, o, none⟩), .pointer (some ⟨b', o', none⟩)] w fun e w' => (∃ r : Int, e = .returned (.int .i64 r) ∧ -1 ≤ r ∧ r ≤ 1) ∧ Kept [] w w' := by
  obtain ⟨j, hj1, hj2⟩ := info_of_size Tryz.sz65
  have hq := run_eql_ptr_other (P := Tryz.prog) w (tp := 86) (a := ⟨b, o, none⟩) (b := ⟨b', o', none⟩) Tryz.underlying86 hj1 hj2 (fun h => hne (congrArg Addr.block h)) hb hb'
  have z0 := (cell_of_heap hb o).trans h0
  have z1 := (cell_of_heap hb (o + 1)).trans h1
  have y0 := (cell_of_heap hb' o').trans h0'
  have y1 := (cell_of_heap hb' (o' + 1)).trans h1'
  have HC : Hid (∀ w', Kept [] w w' → _) := hid fun w' (hk : Kept [] w w') => cmp_any B B' V V' v v' w' (hv.keep hk) (hv'.keep hk) hV
  obtain ⟨_, _, _, rfl⟩ := hv.shape
  obtain ⟨_, _, _, rfl⟩ := hv'.shape
  clear hb h0 h1 hv hb' h0' h1' hv' hj1 hj2
  go_enter Tryz.func213, Tryz.ntmps213
  go_wp2_with fail
  go_quiet (fail)
  go_wp2_with fail
  go_region_with (go_at_call 188; refine (HC.out _ ((Kept.refl [] w).drewN _)).mono ?_; rintro e w2 ⟨⟨r, rfl, h1, h2⟩, hk⟩; have hk' := ((Kept.refl [] w).drewN _).then hk; have z0' := hk'.cellOf z0 (by simp))
  all_goals
    go_wp2
    go_ret
    exact ⟨⟨r, rfl, h1, h2⟩, hk'⟩

theorem bigCmp_any (B B' b o b' o' V V' : Nat) (cur cur' : Array Value) (t t' : TypeId) (v v' : Value) (w : World) (hne : b ≠ b')
    (hb : w.heap[b]? = some (.cells cur t (0, 0))) (h0 : cur[o]? = some (.bool false)) (h1 : cur[o + 1]? = some v) (h2 : cur[o + 2]? = some (.bool false)) (hv : NumV B w v V)
    (hb' : w.heap[b']? = some (.cells cur' t' (0, 0))) (h0' : cur'[o']? = some (.bool false)) (h1' : cur'[o' + 1]? = some v') (h2' : cur'[o' + 2]? = some (.bool false)) (hv' : NumV B' w v' V') (hV : V < 2 ^ (64 * 100)) :
    Calls Tryz.prog 169 #[.pointer (some ⟨b, o, none⟩), .pointer (some ⟨b', o', none⟩)] w fun e w' => (∃ r : Int, e = .returned (.int .i64 r) ∧ -1 ≤ r ∧ r ≤ 1) ∧ Kept [] w w' := by
  have HC : Hid (∀ n, _) := hid fun n => intCmp_any B B' b o b' o' V V' cur cur' t t' v v' (w.drewN n) hne hb h0 h1 (hv.keep ((Kept.refl [] w).drewN n)) hb' h0' h1' (hv'.keep ((Kept.refl [] w).drewN n)) hV
  have z2 := (cell_of_heap hb (o + 2)).trans h2
  have y2 := (cell_of_heap hb' (o' + 2)).trans h2'
  clear hb h0 h1 h2 hv hb' h0' h1' h2' hv'
  go_enter Tryz.func169, Tryz.ntmps169
  go_wp2_with fail
  go_quiet (fail)
  go_wp2_with fail
  go_region_with (go_at_call 213; refine (HC.out _).mono ?_; rintro e w2 ⟨⟨r, rfl, h1, h2⟩, hk⟩; have hk' := ((Kept.refl [] w).drewN _).then hk)
  all_goals
    go_wp2
    go_ret
    exact ⟨⟨r, rfl, h1, h2⟩, hk'⟩

/-- Int.Set within one block: the Int at 4 out of the one at 1. -/
theorem intSet_same (b n : Nat) (xv : Value) (cur : Array Value) (t : TypeId) (x : Nat → Nat) (w : World) (hn : n ≤ 900000)
    (hb : w.heap[b]? = some (.cells cur t (0, 0))) (h1 : cur[1]? = some (.bool false)) (h2 : cur[2]? = some xv) (h4 : cur[4]? = some (.bool false)) (h5 : cur[5]? = some (.slice none 0 0)) (hx : NatV 0 w xv n x) :
    Calls Tryz.prog 33 #[.pointer (some ⟨b, 4, none⟩), .pointer (some ⟨b, 1, none⟩)] w fun e w' =>
      e = .returned (.pointer (some ⟨b, 4, none⟩)) ∧ ∃ v' w1, NatV w.heap.size w1 v' n x ∧ Kept [] w w1 ∧ w' = (w1.setCell ⟨b, 5, none⟩ v').setCell ⟨b, 4, none⟩ (.bool false) := by
  obtain ⟨ao, c, rfl⟩ := hx.shape
  obtain ⟨j, hj1, hj2⟩ := info_of_size Tryz.sz65
  have hq := run_neq_ptr_other (P := Tryz.prog) w (tp := 86) (a := ⟨b, 4, none⟩) (b := ⟨b, 1, none⟩) Tryz.underlying86 hj1 hj2 (fun h => by cases h) hb hb
  have z0 := (cell_of_heap hb 4).trans h4
  have z1 := (cell_of_heap hb 5).trans h5
  have x0 := (cell_of_heap hb 1).trans h1
  have x1 := (cell_of_heap hb 2).trans h2
  have fz0 := frozen_of_heap hb 4
  have fz1 := frozen_of_heap hb 5
  have HZ := hid hb
  clear hb h1 h2 h4 h5 hj1 hj2
  go_enter Tryz.func33, Tryz.ntmps33
  go_wp2_with fail
  go_region_with
    (first | (go_at_call 45; refine (set_any _ n x _ hn hx.drew).mono ?_; rintro e w' ⟨v', rfl, hv', hk⟩; obtain ⟨ao', c', rfl⟩ := hv'.shape; have k3 := (hk.frozen (p := ⟨b, 5, none⟩) (lt_of_heap (w := w) HZ.out) List.not_mem_nil).trans fz1; have k1 := hk.cellOf (w := w.drew) z1 List.not_mem_nil; have k2 := hk.cellOf (w := w.drew) x1 List.not_mem_nil))
  all_goals
    have k4 := hk.cellOf (w := w.drew) x0 List.not_mem_nil
    have k5 := hk.cellOf (w := w.drew) z0 List.not_mem_nil
    have k6 := (hk.frozen (p := ⟨b, 4, none⟩) (lt_of_heap (w := w) HZ.out) List.not_mem_nil).trans fz0
    go_wp2
    go_ret
    exact ⟨rfl, _, _, hv', hk.ofDrew, rfl⟩

theorem intNeg_same (b n : Nat) (d0 xv : Value) (t : TypeId) (x : Nat → Nat) (w : World) (hn : n ≤ 900000) (hn0 : 0 < n) (ht : t ≠ 88)
    (hb : w.heap[b]? = some (.cells #[d0, .bool false, xv, .bool false, .bool false, .slice none 0 0, .bool false] t (0, 0))) (hx : NatV 0 w xv n x) :
    Calls Tryz.prog 284 #[.pointer (some ⟨b, 4, none⟩), .pointer (some ⟨b, 1, none⟩)] w fun e w' =>
      e = .returned (.pointer (some ⟨b, 4, none⟩)) ∧ ∃ v', Kept [b] w w' ∧ w'.heap[b]? = some (.cells #[d0, .bool false, xv, .bool false, .bool true, v', .bool false] t (0, 0)) := by
  have H := hid (intSet_same b n xv _ t x w hn hb rfl rfl rfl rfl hx)
  have HB := hid hb
  clear hb hx
  go_enter Tryz.func284, Tryz.ntmps284
  go_wp2_with fail
  refine (H.out).mono ?_
  rintro e w' ⟨rfl, v', w1, hv, hk, rfl⟩
  have hs := two_stores hk HB.out 5 4 v' (.bool false)
  obtain ⟨ao, c, rfl⟩ := hv.shape
  have hh : ((w1.setCell ⟨b, 5, none⟩ (.slice ao n c)).setCell ⟨b, 4, none⟩ (.bool false)).heap[b]? = some (.cells #[d0, .bool false, xv, .bool false, .bool false, .slice ao n c, .bool false] t (0, 0)) := hs.2
  have hkk := hs.1
  have HK := hid hkk
  have HH := hid hh
  have c5 := cell_of_heap hh 5
  have c4 := cell_of_heap hh 4
  have f4 := frozen_of_heap hh 4
  clear hv hk hs H hkk hh
  generalize (w1.setCell ⟨b, 5, none⟩ (.slice ao n c)).setCell ⟨b, 4, none⟩ (.bool false) = w2 at *
  have c5 : w2.cell? ⟨b, 5, none⟩ = some (.slice ao n c) := c5
  have c4 : w2.cell? ⟨b, 4, none⟩ = some (.bool false) := c4
  go_wp2
  go_ret
  exact ⟨rfl, _, HK.out.setCell _ _ (.inl (by simp)), heap_setCell_self HH.out 4 (.bool true)⟩

theorem bigNeg_same (b V : Nat) (d0 xv : Value) (t : TypeId) (w : World) (hV0 : V ≠ 0) (hV : V < 2 ^ (64 * 8)) (ht : t ≠ 88)
    (hb : w.heap[b]? = some (.cells #[d0, .bool false, xv, .bool false, .bool false, .slice none 0 0, .bool false] t (0, 0))) (hx : NumV 0 w xv V) :
    Calls Tryz.prog 241 #[.pointer (some ⟨b, 4, none⟩), .pointer (some ⟨b, 1, none⟩)] w fun e w' =>
      e = .returned (.pointer (some ⟨b, 4, none⟩)) ∧ ∃ v', Kept [b] w w' ∧ w'.heap[b]? = some (.cells #[d0, .bool false, xv, .bool false, .bool true, v', .bool false] t (0, 0)) := by
  have HS := hid (intSign_any 0 b 1 V _ t xv w hb rfl rfl hx)
  obtain ⟨n, x, hn, g1, g2, g3, g4⟩ := hx.words hV
  have hn0 : 0 < n := by
    rcases Nat.eq_zero_or_pos n with h | h
    · subst h; exact absurd g4.symm hV0
    · exact h
  have hf := frozen_of_heap hb 6
  have hk6 := (Kept.refl [b] w).setCell ⟨b, 6, none⟩ (.bool false) (.inl (by simp))
  have hh6 : (w.setCell ⟨b, 6, none⟩ (.bool false)).heap[b]? = some (.cells #[d0, .bool false, xv, .bool false, .bool false, .slice none 0 0, .bool false] t (0, 0)) := heap_setCell_self hb 6 (.bool false)
  have HN := hid (intNeg_same b n d0 xv t x (w.setCell ⟨b, 6, none⟩ (.bool false)).drew (by omega) hn0 ht hh6 (g1.store hb ht hk6).drew)
  have c6 : w.cell? ⟨b, 6, none⟩ = some (.bool false) := cell_of_heap hb 6
  have c3 : w.cell? ⟨b, 3, none⟩ = some (.bool false) := cell_of_heap hb 3
  have HK6 := hid hk6
  clear hb hx g1 g2 g3 g4 hk6 hh6
  go_enter Tryz.func241, Tryz.ntmps241
  go_wp2_with fail
  refine (HS.out).mono ?_
  rintro e w' ⟨⟨r, rfl, hr⟩, rfl⟩
  obtain rfl : r = 1 := by rcases hr with h | h; exact absurd h.1 hV0; exact h.2
  clear hr
  go_wp2_with fail
  go_region_with (go_at_call 284; refine (HN.out).mono ?_; rintro e w2 ⟨rfl, v', hk, hh⟩; have HK := hid hk; have HH := hid hh; clear hk hh)
  all_goals
    go_wp2
    go_ret
    exact ⟨rfl, v', HK6.out.drew.trans HK.out (by simp) (by simp), HH.out⟩
end

section
open Go.RowKit

theorem lshVUg_one (gz oz cz gx cx X s : Nat) (u : Value) (w : World) (hs0 : s ≠ 0) (hs : s < 64) (hX : X < 18446744073709551616) (hcz : 1 ≤ cz) (hcx : 1 ≤ cx)
    (hx : w.cell? ⟨gx, 0, none⟩ = some (.int .u64 X)) (hz : w.cell? ⟨gz, oz, none⟩ = some u) (hf : w.frozen? ⟨gz, oz, none⟩ = false) :
    Calls Tryz.prog 312 #[.slice (some ⟨gz, oz, none⟩) 1 cz, .slice (some ⟨gx, 0, none⟩) 1 cx, .int .u64 s] w fun e w' => ∃ a c : Nat, e = .returned (.int .u64 c) ∧ a < 18446744073709551616 ∧ c < 18446744073709551616 ∧ w' = w.setCell ⟨gz, oz, none⟩ (.int .u64 a) := by
  have hsb : ((s : Int) == 0) = false := by simp; omega
  have h1 : bits .and .u64 (s : Int) 63 = ((s &&& 63 : Nat) : Int) := Go.bits_and_u64_nat s 63 (by omega) (by omega)
  obtain ⟨k, hk⟩ : ∃ k, k = s &&& 63 := ⟨_, rfl⟩
  rw [← hk] at h1
  have hk63 : k ≤ 63 := by rw [hk]; exact Nat.and_le_right
  have h2 : bits .and .u64 (64 - (k : Int)) 63 = ((64 - k) &&& 63 : Nat) := by
    have := Go.bits_and_u64_nat (64 - k) 63 (by omega) (by omega)
    rw [← this]
    congr 1
    omega
  obtain ⟨m, hm⟩ : ∃ m, m = (64 - k) &&& 63 := ⟨_, rfl⟩
  rw [← hm] at h2
  have hm63 : m ≤ 63 := by rw [hm]; exact Nat.and_le_right
  clear hk hm
  have hxd : X / 2 ^ m < 18446744073709551616 := Nat.lt_of_le_of_lt (Nat.div_le_self _ _) hX
  have HXD := hid hxd
  clear hxd
  go_enter Tryz.func312, Tryz.ntmps312
  go_wp2
  go_loop [8] (fun i => i = .int .i64 0) (fun _ => 0)
  case atStart => rfl
  case round =>
    subst hrel
    go_wp2
    obtain ⟨a, ha1, ha2⟩ := wrap_nat ((X : Int) * 2 ^ k)
    go_ret
    refine ⟨a, X / 2 ^ m, by rw [Int.natCast_ediv, Int.natCast_pow]; rfl, ha2, HXD.out, by rw [ha1]⟩

theorem lshVU_one (gz oz cz gx cx X s : Nat) (u : Value) (w : World) (hs0 : s ≠ 0) (hs : s < 64) (hX : X < 18446744073709551616) (hcz : 1 ≤ cz) (hcx : 1 ≤ cx)
    (hx : w.cell? ⟨gx, 0, none⟩ = some (.int .u64 X)) (hz : w.cell? ⟨gz, oz, none⟩ = some u) (hf : w.frozen? ⟨gz, oz, none⟩ = false) :
    Calls Tryz.prog 268 #[.slice (some ⟨gz, oz, none⟩) 1 cz, .slice (some ⟨gx, 0, none⟩) 1 cx, .int .u64 s] w fun e w' => ∃ a c : Nat, e = .returned (.int .u64 c) ∧ a < 18446744073709551616 ∧ c < 18446744073709551616 ∧ w' = w.setCell ⟨gz, oz, none⟩ (.int .u64 a) := by
  have H := hid (lshVUg_one gz oz cz gx cx X s u w hs0 hs hX hcz hcx hx hz hf)
  clear hx hz hf
  go_enter Tryz.func268, Tryz.ntmps268
  go_wp2_with fail
  refine (H.out).mono ?_
  rintro e w1 ⟨a, c, rfl, ha, hc, rfl⟩
  go_wp2
  go_ret
  exact ⟨a, c, rfl, ha, hc, rfl⟩

theorem same_self (g : Nat) (w : World) :
    Calls Tryz.prog 317 #[.slice (some ⟨g, 0, none⟩) 1 1, .slice (some ⟨g, 0, none⟩) 1 1] w fun e w' => e = .returned (.bool true) ∧ Kept [] w w' := by
  have q := eql_word_same ⟨g, 0, none⟩
  go_enter Tryz.func317, Tryz.ntmps317
  go_wp2
  go_quiet (fail)
  go_wp2
  go_ret
  exact ⟨rfl, by repeat' (first | exact Kept.refl _ _ | refine Kept.drewN ?_ _)⟩

/-- What nat.lsh leaves here: a number of three words at most. -/
def LshPost (w : World) (e : Ending) (w' : World) : Prop := ∃ v' V, e = .returned v' ∧ V < 2 ^ (64 * 3) ∧ NumV 20 w' v' V ∧ Kept [] w w'

theorem lsh_zero (g X : Nat) (w : World) (hX : X < 18446744073709551616) (hX0 : X ≠ 0) (hR : WRow w g 1 (fun _ => X) 1) (hg : 20 ≤ g) :
    Calls Tryz.prog 298 #[.slice (some ⟨g, 0, none⟩) 1 1, .slice (some ⟨g, 0, none⟩) 1 1, .int .u64 0] w (LshPost w) := by
  have HR := hid hR
  clear hR
  go_enter Tryz.func298, Tryz.ntmps298
  go_wp2_with fail
  refine (same_self g w).mono ?_
  rintro e w1 ⟨rfl, hk⟩
  go_wp2
  go_ret
  refine ⟨_, X, rfl, ?_, ⟨1, fun _ => X, .inr ⟨g, 1, rfl, by omega, by omega, by omega, HR.out.kept hk (by simp)⟩, fun _ _ => hX, .inr hX0, by simp [val]⟩, hk⟩
  obtain ⟨N, hN'⟩ : ∃ N, N = 64 * 3 := ⟨_, rfl⟩
  rw [← hN']
  exact lt_pow_more _ 64 N hX (by omega)

/-- The end of lsh: a row of n words, normed. -/
theorem lsh_norm (n g m : Nat) (F : Nat → Nat) (w0 w : World) (hn : n ≤ 3) (hg : 20 ≤ g) (hm : n ≤ m) (hm' : m ≤ 9223372036854775807) (hR : WRow w g m F n) (hF : ∀ j, j < n → F j < 18446744073709551616) (hk : Kept [] w0 w) :
    Calls Tryz.prog 46 #[.slice (some ⟨g, 0, none⟩) n m] w (LshPost w0) := by
  refine (norm_nat 20 n _ F w (.inr ⟨g, m, rfl, hg, hm, hm', hR⟩)).mono ?_
  rintro e w' ⟨n', ao, c, rfl, _, hN, hv, rfl⟩
  have h1 := val_lt F n' (fun j hj => hF j (Nat.lt_of_lt_of_le hj hN.1))
  have h2 : val F n' < 2 ^ (64 * 3) := by
    obtain ⟨N, hN'⟩ : ∃ N, N = 64 * 3 := ⟨_, rfl⟩
    rw [← hN']
    exact lt_pow_more _ (64 * n') N h1 (by have := hN.1; omega)
  refine ⟨_, val F n', rfl, h2, ⟨n', F, hv, fun j hj => hF j (Nat.lt_of_lt_of_le hj hN.1), hN.2.1, rfl⟩, hk⟩

theorem clear_empty (b o c : Nat) (ty : TypeId) (w : World) : (Builtin.clear_ #[63] ty #[.slice (some ⟨b, o, none⟩) 0 c]).run Tryz.prog w = .ok (.tuple #[]) w := by
  simp [Builtin.clear_, run_underlying Tryz.underlying63]

set_option maxHeartbeats 1000000 in
theorem lsh_low (g X s : Nat) (w : World) (hs0 : s ≠ 0) (hs : s < 64) (hX : X < 18446744073709551616) (hX0 : X ≠ 0) (hR : WRow w g 1 (fun _ => X) 1) (hg : 20 ≤ g) :
    Calls Tryz.prog 298 #[.slice (some ⟨g, 0, none⟩) 1 1, .slice (some ⟨g, 0, none⟩) 1 1, .int .u64 s] w (LshPost w) := by
  have hsb : ((s : Int) == 0) = false := by simp; omega
  have hq : (s : Int) / 64 = 0 := by omega
  have hr : (s : Int) % 64 = s := by omega
  have hlt := hR.lt
  have HR := hid hR
  clear hR
  have hcl := clear_empty
  go_enter Tryz.func298, Tryz.ntmps298
  go_wp2_with fail
  refine (make_any _ 1 1 2 w (by omega) (by omega)).mono ?_
  rintro e w1 ⟨m, h1, h2, rfl, rfl⟩
  have hrow := Row.made w (.int .u64 0) m 88
  have hx := (HR.out.alloc (.cells (reps (.int .u64 0) m) 88)).cell (j := 0) (by omega)
  have hk := (Kept.refl [] w).alloc (.cells (reps (.int .u64 0) m) 88)
  obtain ⟨h, hh⟩ : ∃ h, h = w.heap.size := ⟨_, rfl⟩
  rw [← hh] at hrow
  simp only [← hh]
  have hwh : w.heap.size ≤ h := by omega
  have hgh : g < h := by omega
  clear hh hlt
  generalize w.alloc (.cells (reps (.int .u64 0) m) 88) = W1 at *
  have HROW := hid hrow
  have HK := hid hk
  have hz0 := hrow.cell (j := 0) (by omega)
  have hf0 := hrow.free 0
  clear hrow hk
  go_wp2_with fail
  refine (lshVU_one h 0 m g 1 X s _ W1 hs0 hs hX (by omega) (by omega) hx hz0 hf0).mono ?_
  rintro e w2 ⟨a, c, rfl, ha, hc, rfl⟩
  have hr2 : WRow (W1.setCell ⟨h, 0, none⟩ (.int .u64 a)) h m (fun j => if j = 0 then a else 0) 2 := HROW.out.store 0 (.int .u64 (a : Nat)) (by omega) (fun i hi => by omega) (fun _ => by simp) (fun i hi hne => by simp [hne])
  have hz1 := hr2.cell (j := 1) (by omega)
  have hf1 := hr2.free 1
  have HR2 := hid hr2
  have HK2 := hid (HK.out.setCell (bs := []) ⟨h, 0, none⟩ (.int .u64 a) (.inr (by omega)))
  clear hr2 hz0 hf0
  generalize W1.setCell ⟨h, 0, none⟩ (.int .u64 a) = W2 at *
  have hr3 : WRow (W2.setCell ⟨h, 1, none⟩ (.int .u64 c)) h m (fun j => if j = 0 then a else c) 2 := HR2.out.store 1 (.int .u64 (c : Nat)) (by omega) (fun i hi => by omega) (fun _ => by simp) (fun i hi hne => by
    obtain rfl : i = 0 := by omega
    simp)
  have HN := hid (lsh_norm 2 h m _ w _ (by omega) (by omega) h1 (by omega) hr3 (fun j hj => by show (if j = 0 then a else c) < _; split <;> assumption) (HK2.out.setCell ⟨h, 1, none⟩ (.int .u64 c) (.inr hwh)))
  clear hr3
  go_wp2_with (go_at_call 46; refine (HN.out).mono ?_; rintro e w3 ⟨v', V, rfl, hV, hv, hk⟩; have HV := hid hV; have HVV := hid hv; have HKK := hid hk; clear hV hv hk)
  go_ret
  exact ⟨v', V, rfl, HV.out, HVV.out, HKK.out⟩

set_option maxHeartbeats 1000000 in
theorem lsh_high (g X s : Nat) (w : World) (hs0 : 64 < s) (hs : s < 128) (hX : X < 18446744073709551616) (hX0 : X ≠ 0) (hR : WRow w g 1 (fun _ => X) 1) (hg : 20 ≤ g) :
    Calls Tryz.prog 298 #[.slice (some ⟨g, 0, none⟩) 1 1, .slice (some ⟨g, 0, none⟩) 1 1, .int .u64 s] w (LshPost w) := by
  have hsb : ((s : Int) == 0) = false := by simp; omega
  have hq : (s : Int) / 64 = 1 := by omega
  obtain ⟨r, hr0, hr1, hr⟩ : ∃ r : Nat, r ≠ 0 ∧ r < 64 ∧ (s : Int) % 64 = r := ⟨s - 64, by omega, by omega, by omega⟩
  have hrb : ((r : Int) == 0) = false := by simp; omega
  have hlt := hR.lt
  have HR := hid hR
  clear hR
  go_enter Tryz.func298, Tryz.ntmps298
  go_wp2_with fail
  refine (make_any _ 1 1 3 w (by omega) (by omega)).mono ?_
  rintro e w1 ⟨m, h1, h2, rfl, rfl⟩
  have hrow := Row.made w (.int .u64 0) m 88
  have hx := (HR.out.alloc (.cells (reps (.int .u64 0) m) 88)).cell (j := 0) (by omega)
  have hk := (Kept.refl [] w).alloc (.cells (reps (.int .u64 0) m) 88)
  obtain ⟨h, hh⟩ : ∃ h, h = w.heap.size := ⟨_, rfl⟩
  rw [← hh] at hrow
  simp only [← hh]
  have hwh : w.heap.size ≤ h := by omega
  have hgh : g < h := by omega
  clear hh hlt
  generalize w.alloc (.cells (reps (.int .u64 0) m) 88) = W1 at *
  have HROW := hid hrow
  have HK := hid hk
  have hz0 := hrow.cell (j := 1) (by omega)
  have hf0 := hrow.free 1
  clear hrow hk
  go_wp2_with fail
  refine (lshVU_one h 1 (m - 1) g 1 X r _ W1 hr0 hr1 hX (by omega) (by omega) hx hz0 hf0).mono ?_
  rintro e w2 ⟨a, c, rfl, ha, hc, rfl⟩
  have hr2 : WRow (W1.setCell ⟨h, 1, none⟩ (.int .u64 a)) h m (fun j => if j = 1 then a else 0) 3 := HROW.out.store 1 (.int .u64 (a : Nat)) (by omega) (fun i hi => by omega) (fun _ => by simp) (fun i hi hne => by simp [hne])
  have hz1 := hr2.cell (j := 2) (by omega)
  have hf1 := hr2.free 2
  have HR2 := hid hr2
  have HK2 := hid (HK.out.setCell (bs := []) ⟨h, 1, none⟩ (.int .u64 a) (.inr (by omega)))
  clear hr2 hz0 hf0
  generalize W1.setCell ⟨h, 1, none⟩ (.int .u64 a) = W2 at *
  have hr3 : WRow (W2.setCell ⟨h, 2, none⟩ (.int .u64 c)) h m (fun j => if j = 2 then c else if j = 1 then a else 0) 3 := HR2.out.store 2 (.int .u64 (c : Nat)) (by omega) (fun i hi => by omega) (fun _ => by simp) (fun i hi hne => by simp [hne])
  have hclr : ∀ ty, (Builtin.clear_ #[63] ty #[.slice (some ⟨h, 0, none⟩) 1 m]).run Tryz.prog (W2.setCell ⟨h, 2, none⟩ (.int .u64 c)) = .ok (.tuple #[]) ((W2.setCell ⟨h, 2, none⟩ (.int .u64 c)).setCells h 0 (List.replicate 1 (.int .u64 0))) := fun ty =>
    Lib.run_clear_slice _ 63 88 ty (.int .u64 0) Tryz.underlying63 Tryz.zero88 rfl rfl h 0 1 m (by omega) (fun j hj => by rw [show 0 + j = j by omega, hr3.cell (by omega)]; rfl) (fun j hj => hr3.free _)
  have hr4 : WRow ((W2.setCell ⟨h, 2, none⟩ (.int .u64 c)).setCells h 0 (List.replicate 1 (.int .u64 0))) h m (fun j => if j = 2 then c else if j = 1 then a else 0) 3 := hr3.store 0 (.int .u64 0) (by omega) (fun i hi => by omega) (fun _ => by simp) (fun i hi hne => by simp)
  have HN := hid (lsh_norm 3 h m _ w _ (by omega) (by omega) h1 (by omega) hr4 (fun j hj => by show (if j = 2 then c else if j = 1 then a else 0) < _; split; assumption; split; assumption; omega) ((HK2.out.setCell ⟨h, 2, none⟩ (.int .u64 c) (.inr hwh)).setCell ⟨h, 0, none⟩ (.int .u64 0) (.inr hwh)))
  clear hr3 hr4
  go_wp2_with (go_at_call 46; refine (HN.out).mono ?_; rintro e w3 ⟨v', V, rfl, hV, hv, hk⟩; have HV := hid hV; have HVV := hid hv; have HKK := hid hk; clear hV hv hk)
  go_ret
  exact ⟨v', V, rfl, HV.out, HVV.out, HKK.out⟩

/-- A word copied to the second place of a row. -/
theorem wpList_copy_at1 {w : World} {ops : Array Oper} {rest : List Oper} {o : Oper} {a : Act} {Q : Exit → Act → World → Prop} (hgd : o.guard = none) (d s : Operand)
    (ho : o.op = .call { callee := .builtin .copy, args := #[d, s], argTypes := #[63, 63] })
    (h m g sCap dCap X : Nat) (hd : a.eval d = .slice (some ⟨h, 1, none⟩) 1 dCap) (hs : a.eval s = .slice (some ⟨g, 0, none⟩) 1 sCap)
    (hm : 3 ≤ m) (hrow : Row w h 88 m (fun _ => .int .u64 0) m) (hx : w.cell? ⟨g, 0, none⟩ = some (.int .u64 X))
    (hh : ∀ w', Hid (WRow w' h m (fun j => if j = 1 then X else 0) 3) → Kept [h] w w' → wpList Tryz.prog ops Q rest (a.put o.dst (goInt 1)) w') : wpList Tryz.prog ops Q (o :: rest) a w := by
  obtain ⟨cur, hg1, hcs, hcur⟩ := hrow
  have hx1 : ∀ j v, [Value.int .u64 (X : Nat)][j]? = some v → w.cell? ((⟨g, 0, none⟩ : Addr).add j) = some v := by
    intro j v hj
    rcases j with _ | j
    · simp at hj; subst hj; rw [Addr.add_lit]; exact hx
    · simp at hj
  have hW2 := setRow_heap w h cur (cur.toList.take 1 ++ ([Value.int .u64 (X : Nat)] ++ cur.toList.drop (1 + 1))).toArray 88 (0, 0) hg1
  have hkk : Kept [h] w (w.setRow h (cur.toList.take 1 ++ ([Value.int .u64 (X : Nat)] ++ cur.toList.drop (1 + 1))).toArray) := ⟨rfl, rfl, rfl, by simp [World.setRow], fun i hi hn => setRow_other w h i _ (by simpa using hn)⟩
  have hr2 : WRow (w.setRow h (cur.toList.take 1 ++ ([Value.int .u64 (X : Nat)] ++ cur.toList.drop (1 + 1))).toArray) h m (fun j => if j = 1 then X else 0) 3 := by
    refine ⟨_, hW2, by simp; omega, fun j hj => ?_⟩
    have h3 := hcur j (by omega)
    obtain ⟨l, rfl⟩ : ∃ l : List Value, cur = l.toArray := ⟨cur.toList, by simp⟩
    match l, hcs with
    | [], hcs => simp at hcs; omega
    | [_], hcs => simp at hcs; omega
    | a :: b :: l, hcs =>
      rcases j with _ | _ | j
      · simpa using h3
      · simp
      · simpa using h3
  exact wpList_copy_own hgd d s 63 63 ho 88 Tryz.underlying63 Tryz.size88 h 1 1 dCap ⟨g, 0, none⟩ 1 sCap hd hs cur 88 hg1 [.int .u64 (X : Nat)] rfl hx1 (by simp; omega) (by simp [Value.oneCell']) (hh _ hr2 hkk)

set_option maxHeartbeats 1000000 in
theorem lsh_mid (g X : Nat) (w : World) (hX : X < 18446744073709551616) (hX0 : X ≠ 0) (hR : WRow w g 1 (fun _ => X) 1) (hg : 20 ≤ g) :
    Calls Tryz.prog 298 #[.slice (some ⟨g, 0, none⟩) 1 1, .slice (some ⟨g, 0, none⟩) 1 1, .int .u64 64] w (LshPost w) := by
  have hlt := hR.lt
  have HR := hid hR
  clear hR
  go_enter Tryz.func298, Tryz.ntmps298
  go_wp2_with fail
  refine (make_any _ 1 1 3 w (by omega) (by omega)).mono ?_
  rintro e w1 ⟨m, h1, h2, rfl, rfl⟩
  have hrow := Row.made w (.int .u64 0) m 88
  have hx := (HR.out.alloc (.cells (reps (.int .u64 0) m) 88)).cell (j := 0) (by omega)
  have hk := (Kept.refl [] w).alloc (.cells (reps (.int .u64 0) m) 88)
  obtain ⟨h, hh⟩ : ∃ h, h = w.heap.size := ⟨_, rfl⟩
  rw [← hh] at hrow
  simp only [← hh]
  have hwh : w.heap.size ≤ h := by omega
  have hgh : g < h := by omega
  clear hh hlt
  generalize w.alloc (.cells (reps (.int .u64 0) m) 88) = W1 at *
  have HK := hid hk
  have HROW := hid hrow
  clear hk hrow
  go_wp2_with (with_reducible refine wpList_copy_at1 rfl (.tmp 46) (.tmp 47) rfl h m g 1 (m - 1) X rfl rfl h1 HROW.out hx ?_)
  intro W2 HR2 hk2
  have HK2 := hid (HK.out.trans hk2 (ds := []) (by simp) (by intro y hy; simp at hy; right; omega))
  have hf2 := HR2.out.free 2
  have hz2 := HR2.out.cell (j := 2) (by omega)
  have hr3 : WRow (W2.setCell ⟨h, 2, none⟩ (.int .u64 0)) h m (fun j => if j = 1 then X else 0) 3 := HR2.out.store 2 (.int .u64 0) (by omega) (fun i hi => by omega) (fun _ => by simp) (fun i hi hne => rfl)
  have hclr : ∀ ty, (Builtin.clear_ #[63] ty #[.slice (some ⟨h, 0, none⟩) 1 m]).run Tryz.prog (W2.setCell ⟨h, 2, none⟩ (.int .u64 0)) = .ok (.tuple #[]) ((W2.setCell ⟨h, 2, none⟩ (.int .u64 0)).setCells h 0 (List.replicate 1 (.int .u64 0))) := fun ty =>
    Lib.run_clear_slice _ 63 88 ty (.int .u64 0) Tryz.underlying63 Tryz.zero88 rfl rfl h 0 1 m (by omega) (fun j hj => by rw [show 0 + j = j by omega, hr3.cell (by omega)]; rfl) (fun j hj => hr3.free _)
  have hr4 : WRow ((W2.setCell ⟨h, 2, none⟩ (.int .u64 0)).setCells h 0 (List.replicate 1 (.int .u64 0))) h m (fun j => if j = 1 then X else 0) 3 := hr3.store 0 (.int .u64 0) (by omega) (fun i hi => by omega) (fun _ => by simp) (fun i hi hne => rfl)
  have HN := hid (lsh_norm 3 h m _ w _ (by omega) (by omega) h1 (by omega) hr4 (fun j hj => by show (if j = 1 then X else 0) < _; split; assumption; omega) ((HK2.out.setCell ⟨h, 2, none⟩ (.int .u64 0) (.inr hwh)).setCell ⟨h, 0, none⟩ (.int .u64 0) (.inr hwh)))
  clear hr3 hr4 hk2
  go_wp2_with (go_at_call 46; refine (HN.out).mono ?_; rintro e w3 ⟨v', V, rfl, hV, hv, hk⟩; have HV := hid hV; have HVV := hid hv; have HKK := hid hk; clear hV hv hk)
  go_ret
  exact ⟨v', V, rfl, HV.out, HVV.out, HKK.out⟩

theorem lsh_any (g X s : Nat) (w : World) (hs : s < 128) (hX : X < 18446744073709551616) (hX0 : X ≠ 0) (hR : WRow w g 1 (fun _ => X) 1) (hg : 20 ≤ g) :
    Calls Tryz.prog 298 #[.slice (some ⟨g, 0, none⟩) 1 1, .slice (some ⟨g, 0, none⟩) 1 1, .int .u64 s] w (LshPost w) := by
  rcases Nat.lt_or_ge 64 s with h | h
  · exact lsh_high g X s w h hs hX hX0 hR hg
  · by_cases h0 : s = 0
    · subst h0
      exact lsh_zero g X w hX hX0 hR hg
    · by_cases h1 : s = 64
      · subst h1
        exact lsh_mid g X w hX hX0 hR hg
      · exact lsh_low g X s w h0 (by omega) hX hX0 hR hg

/-- Int.Lsh of an Int by itself. -/
theorem intLsh_walk (b g X s : Nat) (cur : Array Value) (t : TypeId) (w : World) (hb : w.heap[b]? = some (.cells cur t (0, 0))) (h0 : cur[0]? = some (.bool false)) (h1 : cur[1]? = some (.slice (some ⟨g, 0, none⟩) 1 1))
    (hs : s < 128) (hX : X < 18446744073709551616) (hX0 : X ≠ 0) (hR : WRow w g 1 (fun _ => X) 1) (hg : 20 ≤ g) :
    Calls Tryz.prog 282 #[.pointer (some ⟨b, 0, none⟩), .pointer (some ⟨b, 0, none⟩), .int .u64 s] w fun e w' => e = .returned (.pointer (some ⟨b, 0, none⟩)) ∧
      ∃ v' w1 V, V < 2 ^ (64 * 3) ∧ NumV 20 w1 v' V ∧ Kept [] w w1 ∧ w' = (w1.setCell ⟨b, 1, none⟩ v').setCell ⟨b, 0, none⟩ (.bool false) := by
  have H : Hid (∀ n, _) := hid fun n => lsh_any g X s (w.drewN n) hs hX hX0 (hR.kept ((Kept.refl [] w).drewN n) (by simp)) hg
  have z0 := (cell_of_heap hb 0).trans h0
  have z1 := (cell_of_heap hb 1).trans h1
  have f0 := frozen_of_heap hb 0
  have f1 := frozen_of_heap hb 1
  have HB := hid hb
  clear hb h0 h1 hR
  go_enter Tryz.func282, Tryz.ntmps282
  go_wp2_with fail
  go_region_with (go_at_call 298; refine (H.out _).mono ?_; rintro e w1 ⟨v', V, rfl, hV, hv, hk⟩; obtain ⟨ao, nn, cc, rfl⟩ := hv.shape; have hk' := ((Kept.refl [] w).drewN _).then hk; have k0 := hk'.cellOf z0 (by simp); have k1 := hk'.cellOf z1 (by simp); have k2 := (hk'.frozen (p := ⟨b, 0, none⟩) (lt_of_heap HB.out) (by simp)).trans f0; have k3 := (hk'.frozen (p := ⟨b, 1, none⟩) (lt_of_heap HB.out) (by simp)).trans f1; have HV := hid hV; have HVV := hid hv; have HKK := hid hk'; clear hV hv hk hk')
  all_goals
    go_wp2
    go_ret
    exact ⟨rfl, _, w1, V, HV.out, HVV.out, HKK.out, rfl⟩
end

section
open Go.RowKit

theorem intLsh_any (b g X s : Nat) (cur : Array Value) (t : TypeId) (w : World) (hb : w.heap[b]? = some (.cells cur t (0, 0))) (h0 : cur[0]? = some (.bool false)) (h1 : cur[1]? = some (.slice (some ⟨g, 0, none⟩) 1 1))
    (hs : s < 128) (hX : X < 18446744073709551616) (hX0 : X ≠ 0) (hR : WRow w g 1 (fun _ => X) 1) (hg : 20 ≤ g) (ht : t ≠ 88) :
    Calls Tryz.prog 282 #[.pointer (some ⟨b, 0, none⟩), .pointer (some ⟨b, 0, none⟩), .int .u64 s] w fun e w' => e = .returned (.pointer (some ⟨b, 0, none⟩)) ∧
      ∃ v' V, V < 2 ^ (64 * 3) ∧ NumV 20 w' v' V ∧ Kept [b] w w' ∧ w'.heap[b]? = some (.cells ((cur.setIfInBounds 1 v').setIfInBounds 0 (.bool false)) t (0, 0)) := by
  refine (intLsh_walk b g X s cur t w hb h0 h1 hs hX hX0 hR hg).mono ?_
  rintro e w' ⟨he, v', w1, V, hV, hv, hkp, rfl⟩
  have h2 := two_stores hkp hb 1 0 v' (.bool false)
  exact ⟨he, v', V, hV, hv.store (hkp.heap hb (by simp)) ht (((Kept.refl [b] w1).setCell ⟨b, 1, none⟩ v' (.inl (by simp))).setCell ⟨b, 0, none⟩ (.bool false) (.inl (by simp))), h2.1, h2.2⟩

theorem bigLsh_any (b g X s : Nat) (cur : Array Value) (t : TypeId) (w : World) (hb : w.heap[b]? = some (.cells cur t (0, 0))) (h0 : cur[0]? = some (.bool false)) (h1 : cur[1]? = some (.slice (some ⟨g, 0, none⟩) 1 1)) (h2 : cur[2]? = some (.bool false))
    (hs : s < 128) (hX : X < 18446744073709551616) (hX0 : X ≠ 0) (hR : WRow w g 1 (fun _ => X) 1) (hg : 20 ≤ g) (ht : t ≠ 88) :
    Calls Tryz.prog 239 #[.pointer (some ⟨b, 0, none⟩), .pointer (some ⟨b, 0, none⟩), .int .u64 s] w fun e w' => e = .returned (.pointer (some ⟨b, 0, none⟩)) ∧
      ∃ v' V, V < 2 ^ (64 * 3) ∧ NumV 20 w' v' V ∧ Kept [b] w w' ∧ w'.heap[b]? = some (.cells (((cur.setIfInBounds 2 (.bool false)).setIfInBounds 1 v').setIfInBounds 0 (.bool false)) t (0, 0)) := by
  have Z2 := (cell_of_heap hb 2).trans h2
  have fz2 := frozen_of_heap hb 2
  have hb1 := heap_setCell_self hb 2 (.bool false)
  have C0 : (cur.setIfInBounds 2 (.bool false))[0]? = some (.bool false) := get_set_ne (by omega) h0
  have C1 : (cur.setIfInBounds 2 (.bool false))[1]? = some (.slice (some ⟨g, 0, none⟩) 1 1) := get_set_ne (by omega) h1
  have hk1 := (Kept.refl [b] w).setCell ⟨b, 2, none⟩ (.bool false) (.inl (by simp))
  have hgb : g ≠ b := by
    rintro rfl
    obtain ⟨cc, q1, _⟩ := hR
    rw [hb] at q1
    cases q1
    exact ht rfl
  have H := hid (intLsh_any b g X s _ t (w.setCell ⟨b, 2, none⟩ (.bool false)).drew hb1 C0 C1 hs hX hX0 ((hR.kept hk1 (by simpa using hgb)).kept (bs := []) ((Kept.refl [] _).drew) (by simp)) hg ht)
  have HK1 := hid hk1
  clear hb h0 h1 h2 hR hb1 C0 C1 hk1
  go_enter Tryz.func239, Tryz.ntmps239
  go_wp2_with fail
  go_region_with (go_at_call 282; refine (H.out).mono ?_; rintro e w2 ⟨rfl, v', V, hV, hv, hk, hh⟩; have HV := hid hV; have HVV := hid hv; have HKK := hid hk; have HH := hid hh; clear hV hv hk hh)
  all_goals
    go_wp2
    go_ret
    exact ⟨rfl, v', V, HV.out, HVV.out, HK1.out.drew.trans HKK.out (by simp) (by simp), HH.out⟩

theorem convert_size (g off D cap : Nat) (c : Nat → Nat) (w : World) (hc : ∀ k, k < D → c k < 256 ∧ w.cell? ⟨g, off + k, none⟩ = some (.int .u8 (c k : Nat))) :
    ∃ s : ByteArray, s.size = D ∧ (convert 40 9 (.slice (some ⟨g, off, none⟩) D cap)).run Tryz.prog w = .ok (.string s) w := by
  have hl : ((List.range D).map (fun k => UInt8.ofNat (c k))).length = D := by simp
  have h := run_convert_bytes_back (P := Tryz.prog) w 40 9 5 ⟨g, off, none⟩ cap ((List.range D).map (fun k => UInt8.ofNat (c k))) Tryz.underlying40 Tryz.underlying5 Tryz.underlying9 (fun j hj => by
    rw [hl] at hj
    obtain ⟨h1, h2⟩ := hc j hj
    rw [Addr.add_lit, h2]
    simp
    omega)
  rw [hl] at h
  exact ⟨_, by simp [ByteArray.size], h⟩

/-- Int.Text of a number of three words: how long it is. -/
theorem intText_any (b o V : Nat) (cur : Array Value) (t : TypeId) (v : Value) (w : World) (hb : w.heap[b]? = some (.cells cur t (0, 0))) (h0 : cur[o]? = some (.bool false)) (h1 : cur[o + 1]? = some v) (hv : NumV 20 w v V) (hV : V < 2 ^ (64 * 3)) (hG : Glob2 w) :
    Calls Tryz.prog 318 #[.pointer (some ⟨b, o, none⟩), .int .i64 10] w fun e w' => ∃ s : ByteArray, e = .returned (.string s) ∧ 1 ≤ s.size ∧ s.size ≤ 58 ∧ Kept [] w w' := by
  have hV58 : V < 10 ^ 58 := by
    have : (2 : Nat) ^ (64 * 3) < 10 ^ 58 := by decide
    omega
  obtain ⟨n, x, hn, g1, g2, g3, g4⟩ := hv.words hV
  have H : Hid (∀ q, _) := hid fun q => itoa_any 3 divOK_three 20 n v x (w.drewN q) hn hn (g1.kept ((Kept.refl [] w).drewN q) (by simp)) g2 g3 (((Kept.refl [] w).drewN q).cellOf hG.leaf (by simp))
  obtain ⟨ao, cc, rfl⟩ := g1.shape
  have z0 := (cell_of_heap hb o).trans h0
  have z1 := (cell_of_heap hb (o + 1)).trans h1
  rw [g4] at H
  clear hb h0 h1 hv hV hG g1 g2 g3 g4
  go_enter Tryz.func318, Tryz.ntmps318
  have HV58 := hid hV58
  clear hV58
  go_wp2_with fail
  go_region_with (go_at_call 75; refine (H.out _).mono ?_; rintro e w1 ⟨g, off, D, cap, rfl, d1, d2, d3, d4, d5, d6, d7, d8⟩; obtain ⟨s, hs1, hs2⟩ := convert_size g off D cap (fun k => 48 + fig V (D - 1 - k)) w1 (fun k hk => ⟨by have := fig_lt V (D - 1 - k); show 48 + fig V (D - 1 - k) < 256; omega, d7 k hk⟩); have HD := hid (And.intro d1 (And.intro d5 hs1)); have HK := hid (((Kept.refl [] w).drewN _).then d8); clear d1 d2 d3 d4 d5 d6 d7 d8 hs1)
  all_goals
    go_wp2
    go_ret
    obtain ⟨h1, h2, h3⟩ := HD.out
    refine ⟨s, rfl, by omega, ?_, HK.out⟩
    rcases h2 with h2 | h2
    · omega
    · rcases Nat.lt_or_ge 58 D with h | h
      · have h4 : (10 : Nat) ^ 58 ≤ 10 ^ (D - 1) := Nat.pow_le_pow_right (by omega) (by omega)
        have h5 := HV58.out
        exfalso
        exact Nat.lt_irrefl _ (Nat.lt_of_lt_of_le h5 (Nat.le_trans h4 h2))
      · omega

theorem bigString_any (b o V : Nat) (cur : Array Value) (t : TypeId) (v : Value) (w : World) (hb : w.heap[b]? = some (.cells cur t (0, 0))) (h0 : cur[o]? = some (.bool false)) (h1 : cur[o + 1]? = some v) (hv : NumV 20 w v V) (hV : V < 2 ^ (64 * 3)) (hG : Glob2 w) :
    Calls Tryz.prog 240 #[.pointer (some ⟨b, o, none⟩)] w fun e w' => ∃ s : ByteArray, e = .returned (.string s) ∧ 1 ≤ s.size ∧ s.size ≤ 58 ∧ Kept [] w w' := by
  have H := hid (intText_any b o V cur t v w hb h0 h1 hv hV hG)
  have H2 : Calls Tryz.prog 283 #[.pointer (some ⟨b, o, none⟩)] w fun e w' => ∃ s : ByteArray, e = .returned (.string s) ∧ 1 ≤ s.size ∧ s.size ≤ 58 ∧ Kept [] w w' := by
    clear hb h0 h1 hv hV hG
    go_enter Tryz.func283, Tryz.ntmps283
    go_wp2_with fail
    refine (H.out).mono ?_
    rintro e w1 ⟨s, rfl, h1, h2, hk⟩
    have HK := hid hk
    clear hk
    go_wp2
    go_ret
    exact ⟨s, rfl, h1, h2, HK.out⟩
  have H3 := hid H2
  clear hb h0 h1 hv hV hG H H2
  go_enter Tryz.func240, Tryz.ntmps240
  go_wp2_with fail
  refine (H3.out).mono ?_
  rintro e w1 ⟨s, rfl, h1, h2, hk⟩
  have HK := hid hk
  clear hk
  go_wp2
  go_ret
  exact ⟨s, rfl, h1, h2, HK.out⟩
end

section
open Go.RowKit

/-- What digitsLookup leaves: an element with figures and border. -/
def LookPost (w : World) (e : Ending) (w' : World) : Prop :=
  ∃ (d k E : Nat) (bv nv : Value), e = .returned (.pointer (some ⟨E, 0, none⟩)) ∧ 1 ≤ d ∧ d ≤ 58 ∧ w.heap.size ≤ E ∧ w'.heap[E]? = some (.cells #[.int .i64 d, .bool false, bv, .bool false, .bool true, nv, .bool false] 288 (0, 0)) ∧ NumV 20 w' bv (10 ^ k) ∧ k < 64 ∧ Kept [] w w'

set_option maxHeartbeats 1000000 in
theorem digitsLookup_walk (i : Nat) (w : World) (h2 : i < 128) (hG : Glob2 w) :
    Calls Tryz.prog 207 #[.int .i64 (i + 1 : Nat)] w (LookPost w) := by
  have hi0 : (((i + 1 : Nat) : Int) == 0) = false := by simp; omega
  have hHE := heap_alloc_new w (.cells #[.int .i64 0, .bool false, .slice none 0 0, .bool false, .bool false, .slice none 0 0, .bool false] 288)
  have hk1 := (Kept.refl [] w).alloc (.cells #[.int .i64 0, .bool false, .slice none 0 0, .bool false, .bool false, .slice none 0 0, .bool false] 288)
  have hE20 := hG.size
  have HG := hid hG
  have HHE := hid hHE
  have HK1 := hid hk1
  clear hHE hk1 hG
  go_enter Tryz.func207, Tryz.ntmps207
  go_wp2_with fail
  refine (newBigInt_any 1 _ (by omega)).mono ?_
  rw [World.size_alloc]
  rintro e w2 ⟨v1, rfl, hv1, hs1, hk2, hh2⟩
  have hs1' := hs1 (by omega)
  subst hs1'
  have HK2 := hid (HK1.out.then hk2)
  have HE2 := hid (hk2.heap HHE.out (by simp))
  have hw2 : w.heap.size + 1 < w2.heap.size := lt_of_heap hh2
  obtain ⟨gx, cx, hx1, hx2, hx3, hx4, hR⟩ := hv1.one (by omega) (by omega)
  cases hx1
  have HL := hid (bigLsh_any (w.heap.size + 1) (w.heap.size + 1 + 1) 1 i _ 67 w2 hh2 rfl rfl rfl (by omega) (by omega) (by omega) hR (by omega) (by decide))
  clear hh2 hk2 hs1 hv1 hR HHE HK1
  go_wp2_with fail
  refine (HL.out).mono ?_
  rintro e w3 ⟨rfl, v3, V, hV, hv3, hk3, hh3⟩
  have HK3 := hid (HK2.out.trans hk3 (ds := []) (by simp) (by intro y hy; simp at hy; right; omega))
  have HE3 := hid (hk3.heap HE2.out (by simp))
  have hh3' : w3.heap[w.heap.size + 1]? = some (.cells #[.bool false, v3, .bool false] 67 (0, 0)) := hh3
  have hw3 := lt_of_heap hh3'
  have HS := hid (bigString_any (w.heap.size + 1) 0 V _ 67 v3 w3 hh3' rfl rfl hv3 hV (HG.out.keep HK3.out))
  clear hV hv3 hk3 hh3 hh3' HL HK2 HE2
  go_wp2_with fail
  refine (HS.out).mono ?_
  rintro e w4 ⟨s, rfl, hs1, hs2, hk4⟩
  have HK4 := hid (HK3.out.then hk4)
  have hw4 := hk4.size
  have HE4 := hid (hk4.heap HE3.out (by simp))
  generalize hd : s.size = d at *
  have c0 := cell_of_heap HE4.out 0
  have f0 := frozen_of_heap HE4.out 0
  have c0 : w4.cell? ⟨w.heap.size, 0, none⟩ = some (.int .i64 0) := c0
  clear HS HK3 HE3 hk4
  have hHE5 : ((w4.setCell ⟨w.heap.size, 0, none⟩ (.int .i64 d)).alloc (.cells #[.bool false, .slice none 0 0, .bool false] 67)).heap[w.heap.size]? = some (.cells #[.int .i64 d, .bool false, .slice none 0 0, .bool false, .bool false, .slice none 0 0, .bool false] 288 (0, 0)) :=
    ((Kept.refl [] _).alloc (.cells #[.bool false, .slice none 0 0, .bool false] 67)).heap (heap_setCell_self HE4.out 0 (.int .i64 d)) (by simp)
  have hHP5 : ((w4.setCell ⟨w.heap.size, 0, none⟩ (.int .i64 d)).alloc (.cells #[.bool false, .slice none 0 0, .bool false] 67)).heap[w4.heap.size]? = some (.cells #[.bool false, .slice none 0 0, .bool false] 67 (0, 0)) := by
    have := heap_alloc_new (w4.setCell ⟨w.heap.size, 0, none⟩ (.int .i64 d)) (.cells #[.bool false, .slice none 0 0, .bool false] 67)
    simpa using this
  have hk5 : Kept [] w ((w4.setCell ⟨w.heap.size, 0, none⟩ (.int .i64 d)).alloc (.cells #[.bool false, .slice none 0 0, .bool false] 67)) := (HK4.out.setCell (bs := []) _ _ (.inr (Nat.le_refl _))).alloc _
  have HP5 := hid hHP5
  have HK5 := hid hk5
  have HS := hid (bigSetInt64_any w.heap.size 1 10 false false _ 288 _ (by omega) hHE5 rfl rfl rfl (by decide))
  have hP : w.heap.size ≠ w4.heap.size := by omega
  have hw45 := lt_of_heap hHP5
  clear hHE5 hHP5 hk5 HK4 HE4
  go_wp2_with fail
  refine (HS.out).mono ?_
  generalize (w4.setCell ⟨w.heap.size, 0, none⟩ (.int .i64 d)).alloc (.cells #[.bool false, .slice none 0 0, .bool false] 67) = W5 at *
  rintro e w6 ⟨rfl, v6, hv6, hs6, hk6, hh6⟩
  have hs6' := hs6 (by omega)
  have hh6' : w6.heap[w.heap.size]? = some (.cells #[.int .i64 d, .bool false, v6, .bool false, .bool false, .slice none 0 0, .bool false] 288 (0, 0)) := hh6
  have HS6 := hid hs6'
  have HH6 := hid hh6'
  have hw5 := HK5.out.size
  have HV6 := hid (hv6.mono (B' := 20) (by omega))
  have HK6 := hid (HK5.out.trans hk6 (ds := []) (by simp) (by intro y hy; simp at hy; right; omega))
  have HP6 := hid (hk6.heap HP5.out (by simpa using hP.symm))
  have HS := hid (bigSetInt64_any w4.heap.size 0 d false false _ 67 w6 (by omega) HP6.out rfl rfl rfl (by decide))
  have c6 : w6.cell? ⟨w.heap.size, 0, none⟩ = some (.int .i64 d) := cell_of_heap hh6' 0
  clear hs6 hh6 hs6' hh6' hv6 hk6 HP5 HK5 HP6 c0 f0
  go_wp2_with fail
  refine (HS.out).mono ?_
  rintro e w7 ⟨rfl, v7, hv7, _, hk7, hh7⟩
  have hh7' : w7.heap[w4.heap.size]? = some (.cells #[.bool false, v7, .bool false] 67 (0, 0)) := hh7
  have hw6 := HK6.out.size
  have hv7' := hv7.mono (B' := 20) (by omega)
  have hv67 : NumV 20 w7 v6 10 := HV6.out.kept hk7 (by
    intro b hb h
    simp at hb
    subst hb
    rw [HS6.out] at h
    simp [Value.ownBlock] at h
    omega)
  have hh67 := hk7.heap HH6.out (by simpa using hP)
  have HK7 := hid (HK6.out.trans hk7 (ds := []) (by simp) (by intro y hy; simp at hy; right; omega))
  have HX : Hid (∀ q, _) := hid fun q => bigExp_any w.heap.size 1 w.heap.size 1 w4.heap.size 0 d false false v6 v7 v6 _ _ _ 288 288 67 (w7.drewN q) hh67 rfl rfl rfl hh67 rfl rfl hh7' rfl rfl (hv67.keep ((Kept.refl [] w7).drewN q)) (hv7'.keep ((Kept.refl [] w7).drewN q)) hs1 (by omega) (.inr ⟨_, rfl, HS6.out⟩) (.inr rfl) hP.symm ((HG.out.keep HK7.out).keep ((Kept.refl [] w7).drewN q)) (by decide) hE20
  clear hv7 hk7 hh7 hh7' hv7' hv67 hh67 HS
  go_wp2_with fail
  go_region_with (go_at_call 218; refine (HX.out _).mono ?_; rintro e w8 ⟨rfl, v8, k, hk1, hk2, hv8, hk8, hh8⟩; have HV8 := hid (hv8.mono (B' := 20) (by have := HK7.out.size; simp; omega)); have HK8 := hid ((HK7.out.drewN _).trans hk8 (ds := []) (by simp) (by intro y hy; simp at hy; right; omega)); have HH8 : Hid (w8.heap[w.heap.size]? = some (.cells #[.int .i64 d, .bool false, v8, .bool false, .bool false, .slice none 0 0, .bool false] 288 (0, 0))) := hid hh8; clear hv8 hk8 hh8)
  all_goals
    have HN : Hid (∀ q, _) := hid fun q => bigNeg_same w.heap.size (10 ^ k) (.int .i64 d) v8 288 (w8.drewN q) (Nat.ne_of_gt (Nat.pow_pos (by omega))) (exp_bound k hk2) (by decide) HH8.out ((HV8.out.keep ((Kept.refl [] w8).drewN q)).mono (Nat.zero_le _))
    clear HX
    go_wp2_with fail
    go_region_with (go_at_call 241; refine (HN.out _).mono ?_; rintro e w9 ⟨rfl, v9, hk9, hh9⟩; have HK9 := hid hk9; have HH9 := hid hh9; clear hk9 hh9)
    all_goals
      go_wp2
      go_ret
      refine ⟨d, k, w.heap.size, v8, v9, rfl, hs1, hs2, Nat.le_refl _, HH9.out, ?_, hk2, (HK8.out.drewN _).trans HK9.out (by simp) (by intro y hy; simp at hy; right; omega)⟩
      exact (HV8.out.store HH8.out (by decide) (((Kept.refl [w.heap.size] w8).drewN _).trans HK9.out (by simp) (by simp)))

theorem digitsLookup_any (i : Nat) (w : World) (h1 : 1 ≤ i) (h2 : i ≤ 128) (hG : Glob2 w) : Calls Tryz.prog 207 #[.int .i64 i] w (LookPost w) := by
  obtain ⟨j, rfl⟩ : ∃ j, i = j + 1 := ⟨i - 1, by omega⟩
  exact digitsLookup_walk j w (by omega) hG
end

end Go.Proofs.YtofmickjbpkgbaaGreatDoor
