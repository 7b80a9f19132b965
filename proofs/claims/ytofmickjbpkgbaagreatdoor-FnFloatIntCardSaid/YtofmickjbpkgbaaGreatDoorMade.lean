import Derived.Test.YtofmickjbpkgbaaGreatDoorWhole
namespace Go.Proofs.YtofmickjbpkgbaaGreatDoor
open Go.RowKit
set_option maxRecDepth 100000

/-- The world in which made calls whole. -/
def madeW (w : World) (f : Int) (neg : Bool) (sl : Value) (ex : Int) : World :=
  (w.alloc (.cells #[.int .i64 f, .bool neg, sl, .int .i64 ex] 30)).alloc (.cells #[.int .i8 0, .bool false, .int .i32 ex, .bool false, .slice none 0 0, .bool false] 69)

theorem madeW_facts (w : World) (f : Int) (neg : Bool) (sl : Value) (ex : Int) :
    (madeW w f neg sl ex).heap[w.heap.size]? = some (.cells #[.int .i64 f, .bool neg, sl, .int .i64 ex] 30 (0, 0)) ∧
    (madeW w f neg sl ex).heap[w.heap.size + 1]? = some (.cells #[.int .i8 0, .bool false, .int .i32 ex, .bool false, .slice none 0 0, .bool false] 69 (0, 0)) ∧
    (madeW w f neg sl ex).heap.size = w.heap.size + 2 ∧ Kept [] w (madeW w f neg sl ex) := by
  refine ⟨heap_alloc_old' (heap_alloc_new w _) _, ?_, by simp [madeW], ((Kept.refl [] w).alloc _).alloc _⟩
  have := heap_alloc_new (w.alloc (.cells #[.int .i64 f, .bool neg, sl, .int .i64 ex] 30)) (.cells #[.int .i8 0, .bool false, .int .i32 ex, .bool false, .slice none 0 0, .bool false] 69)
  rwa [World.size_alloc] at this

/-- impl.made of a finite Dec. -/
theorem made_finite (neg : Bool) (ao : Option Addr) (n c : Nat) (ex : Int) (x : Nat → Nat) (w : World) (hn : n ≤ 900000) (hc : n ≤ c) (hcc : c ≤ 9223372036854775807) (he : -100000 ≤ ex ∧ ex ≤ 100000)
    (hcell : n = 0 ∨ ∃ g o, ao = some ⟨g, o, none⟩ ∧ g < w.heap.size ∧ ∀ j, j < n → w.cell? ⟨g, o + j, none⟩ = some (.int .u64 (x j : Nat))) :
    Calls Tryz.prog 16 #[.agg #[.int .i64 0, .bool neg, .slice ao n c, .int .i64 ex]] w fun e w' => ∃ b v' m, e = .returned (.pointer (some ⟨b, 0, none⟩)) ∧ NormAt x n m ∧ w.heap.size ≤ b ∧
      w'.heap[b]? = some (.cells #[.int .i8 0, .bool neg, .int .i32 ex, .bool false, v', .bool false] 69 (0, 0)) ∧ NatV w.heap.size w' v' m x ∧ Kept [] w w' := by
  obtain ⟨f1, f2, f3, f4⟩ := madeW_facts w 0 neg (.slice ao n c) ex
  have HC : Hid (n = 0 ∨ ∃ g o, ao = some ⟨g, o, none⟩ ∧ g < (madeW w 0 neg (.slice ao n c) ex).drew.heap.size ∧ ∀ j, j < n → (madeW w 0 neg (.slice ao n c) ex).drew.cell? ⟨g, o + j, none⟩ = some (.int .u64 (x j : Nat))) := by
    rcases hcell with h | ⟨g, o, h1, h2, h3⟩
    · exact .inl h
    · exact .inr ⟨g, o, h1, by simp; omega, fun j hj => (f4.cell (p := ⟨g, o + j, none⟩) h2 (by simp)).trans (h3 j hj)⟩
  have F1 := hid f1
  have F2 := hid f2
  have F4 := hid f4
  have hx2 := (cell_of_heap f1 2)
  clear hcell f1 f2 f4
  go_enter Tryz.func16, Tryz.ntmps16
  go_wp2_with fail
  rename_i K _
  change Code.wp _ _ _ _ (madeW w 0 neg (.slice ao n c) ex)
  generalize madeW w 0 neg (.slice ao n c) ex = W2 at *
  go_region_with
    (first
      | (go_at_call 26; refine (whole_any ao n c x _ hn hc hcc HC.out).mono ?_; rintro e w1 ⟨bb, v1, m, rfl, hm, hb, hh, hv, hk⟩; have HM := hid hm; have hm1 := hm.1; have hk' := hk.ofDrew; have HH := hid hh; have HV := hid hv; have HK := hid (F4.out.trans hk' (ds := []) (by simp) (by simp)); have G1 := hid (hk'.heap F1.out (by simp)); have G2 := hid (hk'.heap F2.out (by simp)); have hs := hk.size; simp only [World.size_drew] at hs hb; clear hm hh hv hk hk')
      | (go_at_call 25; refine (bigSet_any (w.heap.size + 1) 3 bb 0 m false false false false v1 _ _ 69 67 x _ (by omega) (by omega) G2.out rfl rfl rfl HH.out rfl rfl rfl (HV.out.mono (by omega)) (by decide)).mono ?_; rintro e w2 ⟨rfl, v2, hv2, hk2, hb2⟩; have HV2 := hid hv2; have HB2 := hid hb2; have HK2 := hid (HK.out.trans hk2 (ds := []) (by simp) (by intro y hy; right; simp at hy; omega)); have G3 := hid (hk2.heap G1.out (by simp)); clear hv2 hb2 hk2))
  have c1 : w2.cell? ⟨w.heap.size, 1, none⟩ = some (.bool neg) := cell_of_heap G3.out 1
  have c2 : w2.cell? ⟨w.heap.size + 1, 1, none⟩ = some (.bool false) := (cell_of_heap HB2.out 1).trans (by simp)
  have c3 := frozen_of_heap HB2.out 1
  have hb2 := hid (heap_setCell_self HB2.out 1 (.bool neg))
  have hk3 := hid (HK2.out.setCell ⟨w.heap.size + 1, 1, none⟩ (.bool neg) (.inr (by simp)))
  have hv3 := hid (HV2.out.store HB2.out (by decide) ((Kept.refl _ w2).setCell ⟨w.heap.size + 1, 1, none⟩ (.bool neg) (.inl List.mem_cons_self)))
  go_wp2
  go_ret
  exact ⟨_, v2, m, rfl, HM.out, by omega, by simpa using hb2.out, hv3.out.mono (by omega), hk3.out⟩
end Go.Proofs.YtofmickjbpkgbaaGreatDoor
