import Derived.Test.YtofmickjbpkgbaaGreatDoorMm
import Derived.Test.YtofmickjbpkgbaaGreatDoorMj
set_option maxRecDepth 100000
namespace Go.Proofs.YtofmickjbpkgbaaGreatDoor
section
open Go.RowKit

/-- Block b is a Decimal with these parts. -/
def DA (w : World) (b : Nat) (f : Nat) (neg : Bool) (ex : Int) (V : Nat) : Prop :=
  ∃ v, w.heap[b]? = some (.cells #[.int .i8 f, .bool neg, .int .i32 ex, .bool false, v, .bool false] 69 (0, 0)) ∧ NumV 20 w v V

theorem DA.big {w : World} {b f V : Nat} {neg : Bool} {ex : Int} (h : DA w b f neg ex V) : BigAt w b 3 V := by
  obtain ⟨v, h1, h2⟩ := h
  exact ⟨_, _, v, h1, by decide, rfl, rfl, rfl, h2⟩

theorem DA.keep {w w' : World} {b f V : Nat} {neg : Bool} {ex : Int} (h : DA w b f neg ex V) (k : Kept [] w w') : DA w' b f neg ex V := by
  obtain ⟨v, h1, h2⟩ := h
  exact ⟨v, k.heap h1 (by simp), h2.keep k⟩

theorem DA.lt {w : World} {b f V : Nat} {neg : Bool} {ex : Int} (h : DA w b f neg ex V) : b < w.heap.size := by
  obtain ⟨v, h1, h2⟩ := h
  exact lt_of_heap h1

/-- The sum of the first numbers. -/
def psum (x : Nat → Int) : Nat → Int
  | 0 => 0
  | j + 1 => psum x j + x j

theorem psum_le (x : Nat → Int) (n : Nat) (hx : ∀ j, j < n → -400 ≤ x j ∧ x j ≤ 400) : ∀ j, j ≤ n → -400 * (j : Int) ≤ psum x j ∧ psum x j ≤ 400 * (j : Int)
  | 0, _ => by simp [psum]
  | j + 1, h => by
    have h1 := psum_le x n hx j (by omega)
    have h2 := hx j (by omega)
    simp only [psum]
    omega

theorem inexact_0 (w : World) : Calls Tryz.prog 113 #[.int .u32 0] w fun e w' => e = .returned (.bool false) ∧ w' = w := by
  go_enter Tryz.func113, Tryz.ntmps113
  go_wp2
  go_ret
  exact ⟨rfl, rfl⟩

theorem goError_0 (w : World) : Calls Tryz.prog 54 #[.pointer (some ⟨1, 0, none⟩), .int .u32 0] w fun e w' => e = .returned (.tuple #[.int .u32 0, .nilIface]) ∧ w' = w := by
  go_enter Tryz.func54, Tryz.ntmps54
  go_wp2
  go_ret2
  exact ⟨rfl, rfl⟩

set_option maxHeartbeats 4000000 in
/-- Decimal.setExponent within the limits, under BaseContext. -/
theorem setExponent_any (b g c n f V : Nat) (neg : Bool) (ex ndv : Int) (x : Nat → Int) (w : World) (hd : DA w b f neg ex V) (hV : V < 2 ^ (64 * 3)) (hnd : ndv = -1 ∨ (0 ≤ ndv ∧ ndv ≤ 200))
    (hn : n ≤ 2) (hrow : Row w g 2 c (fun j => .int .i64 (x j)) n) (hx : ∀ j, j < n → -400 ≤ x j ∧ x j ≤ 400) (hG : Glob2 w) :
    Calls Tryz.prog 72 #[.pointer (some ⟨b, 0, none⟩), .pointer (some ⟨1, 0, none⟩), .int .i64 ndv, .int .u32 0, .slice (some ⟨g, 0, none⟩) n c] w fun e w' =>
      e = .returned (.int .u32 0) ∧ DA w' b f neg (psum x n) V ∧ Kept [b] w w' := by
  have hps := psum_le x n hx n (Nat.le_refl _)
  have HPS := hid (psum_le x n hx)
  have HND := hid (decNumDigits_any b V w hd.big hV hG)
  have HX := hid hx
  have HR := hid hrow
  have HD := hid hd
  have HG := hid hG
  clear hrow hd hG hx hV
  go_enter Tryz.func72, Tryz.ntmps72
  go_wp2_with fail
  go_loop [11, 13, 23] (fun s v i => ∃ k : Nat, k ≤ n ∧ s = .int .i64 (psum x k) ∧ i = .int .i64 k) (fun _ _ i => n - (intOf i).toNat)
  case atStart => exact ⟨0, Nat.zero_le _, rfl, rfl⟩
  case round =>
    obtain ⟨k, hk, rfl, rfl⟩ := hrel
    by_cases hlt : k < n
    · have hck := HR.out.cell hlt
      have hxk := HX.out k hlt
      have hpk := HPS.out k hk
      have hw1 : IntKind.i64.wrap (psum x k + x k) = psum x (k + 1) := by
        rw [IntKind.wrap_i64]
        simp only [psum]
        omega
      have HW1 := hid hw1
      clear hw1 HPS HX HR
      go_wp2
      go_round
      case rel => exact ⟨k + 1, by omega, rfl, by go_num⟩
      case measure => simp [intOf]; omega
    · obtain rfl : k = n := by omega
      clear HPS HX HR hk hlt
      obtain ⟨v, hb, hv⟩ := HD.out
      have HB := hid hb
      have HV := hid hv
      clear hb hv HD
      generalize hS : psum x k = S at *
      have HS := hid hS
      clear hS
      have tail : ∀ (e : Int) (w1 : World), Kept [] w w1 → (w1.setCell ⟨b, 2, none⟩ (.int .i32 S)).heap[b]? = some (.cells #[.int .i8 f, .bool neg, .int .i32 S, .bool false, v, .bool false] 69 (0, 0)) ∧
          DA (w1.setCell ⟨b, 2, none⟩ (.int .i32 S)) b f neg S V ∧ Kept [b] w (w1.setCell ⟨b, 2, none⟩ (.int .i32 S)) := by
        intro e w1 hk
        have h1 := hk.heap HB.out (by simp)
        have h2 := heap_setCell_self h1 2 (.int .i32 S)
        have h3 := (Kept.refl [b] w1).setCell ⟨b, 2, none⟩ (.int .i32 S) (.inl (by simp))
        exact ⟨h2, ⟨v, h2, (HV.out.keep hk).store h1 (by decide) h3⟩, (hk.mono (by simp)).setCell ⟨b, 2, none⟩ _ (.inl (by simp))⟩
      have TAIL := hid tail
      clear tail
      rcases hnd with rfl | hnd
      · go_wp2_with fail
        refine (HND.out).mono ?_
        rintro e w1 ⟨nd, rfl, hnd, hk⟩
        have c1 := hk.cellOf HG.out.c1 (by simp)
        have c2 := hk.cellOf HG.out.c2 (by simp)
        have z2 := (cell_of_heap (hk.heap HB.out (by simp)) 2)
        have fz2 := frozen_of_heap (hk.heap HB.out (by simp)) 2
        have HT := hid (TAIL.out 0 w1 hk)
        clear hk TAIL HB HV HND HG
        go_wp2_with fail
        refine (inexact_0 w1).mono ?_
        rintro e w2 ⟨rfl, rfl⟩
        go_wp2
        go_ret
        exact ⟨rfl, by rw [HS.out]; exact HT.out.2⟩
      · obtain ⟨nd, rfl⟩ : ∃ nd : Nat, ndv = nd := ⟨ndv.toNat, by omega⟩
        have hnd' : nd ≤ 200 := by omega
        have hne : ((nd : Int) == -1) = false := by simp
        have c1 := HG.out.c1
        have c2 := HG.out.c2
        have z2 := cell_of_heap HB.out 2
        have fz2 := frozen_of_heap HB.out 2
        have HT := hid (TAIL.out 0 w (Kept.refl _ _))
        clear hnd TAIL HB HV HND HG
        go_wp2_with fail
        refine (inexact_0 w).mono ?_
        rintro e w2 ⟨rfl, rfl⟩
        go_wp2
        go_ret
        exact ⟨rfl, by rw [HS.out]; exact HT.out.2⟩
end

section
open Go.RowKit

theorem extract_list (s : List UInt8) (a b : Nat) : (ByteArray.mk s.toArray).extract a b = ⟨((s.drop a).take (b - a)).toArray⟩ := by
  have h : ((ByteArray.mk s.toArray).extract a b).data = ((s.drop a).take (b - a)).toArray := by simp [List.extract_eq_take_drop]
  cases h2 : (ByteArray.mk s.toArray).extract a b
  rw [h2] at h
  exact congrArg ByteArray.mk h

theorem extract_tail (s : List UInt8) (a : Nat) : (ByteArray.mk s.toArray).extract a s.length = ⟨(s.drop a).toArray⟩ := by
  rw [extract_list, List.take_of_length_le (by simp)]

/-- apd.consumePrefix. -/
theorem consume_at (p s r : List UInt8) (b : Bool) (h1 : Lib.hasPrefix s p = b) (h2 : b = true → p.length ≤ s.length ∧ s.drop p.length = r) (h3 : b = false → r = s) (hs : s.length ≤ 100000) (w : World) :
    Calls Tryz.prog 64 #[.string ⟨s.toArray⟩, .string ⟨p.toArray⟩] w fun e w' => e = .returned (.tuple #[.string ⟨r.toArray⟩, .bool b]) ∧ w' = w := by
  have HP := hid (Tryz.strings_HasPrefix ⟨s.toArray⟩ ⟨p.toArray⟩ w)
  cases b
  · obtain rfl := h3 rfl
    have H1 := hid h1
    clear h1 h2 h3
    go_enter Tryz.func64, Tryz.ntmps64
    go_wp2_with fail
    refine (HP.out).mono ?_
    rintro e w1 ⟨he, rfl⟩
    rw [show Lib.hasPrefix (ByteArray.mk r.toArray).data.toList (ByteArray.mk p.toArray).data.toList = false from H1.out] at he
    subst he
    clear HP
    go_wp2
    go_ret2
    exact ⟨rfl, rfl⟩
  · obtain ⟨h4, h5⟩ := h2 rfl
    have H1 := hid h1
    have H5 := hid h5
    clear h1 h2 h3 h5
    go_enter Tryz.func64, Tryz.ntmps64
    go_wp2_with fail
    refine (HP.out).mono ?_
    rintro e w1 ⟨he, rfl⟩
    rw [show Lib.hasPrefix (ByteArray.mk s.toArray).data.toList (ByteArray.mk p.toArray).data.toList = true from H1.out] at he
    subst he
    clear HP
    go_wp2
    go_ret2
    exact ⟨by rw [extract_tail, H5.out]; rfl, rfl⟩

theorem toLower_at (l : List UInt8) (hl : l.length ≤ 100000) (ha : ∀ b ∈ l, b.toNat < 128) (w : World) :
    Calls Tryz.prog 65 #[.string ⟨l.toArray⟩] w fun e w' => e = .returned (.string ⟨(Lib.toLowerA l).toArray⟩) ∧ Kept [] w w' := by
  refine (Tryz.strings_ToLower_ascii ⟨l.toArray⟩ w (by show l.toArray.size ≤ _; simp; omega) (fun j b h => ha b (List.mem_of_getElem? (by simpa using h)))).mono ?_
  rintro e w' ⟨rfl, h⟩
  exact ⟨by simp, Kept.ofBelow h⟩

theorem indexByteAt (l : List UInt8) (c : Int) (d : UInt8) (hd : c.toNat.toUInt8 = d) (w : World) :
    Calls Tryz.prog 69 #[.string ⟨l.toArray⟩, .int .u8 c] w fun e w' => e = .returned (.int .i64 (Lib.indexByte l d)) ∧ w' = w := by
  refine (Tryz.strings_IndexByte ⟨l.toArray⟩ c w).mono ?_
  rintro e w' ⟨rfl, h⟩
  exact ⟨by simp [hd], h⟩

theorem Kept.bytesWorld (w : World) (s : ByteArray) : Kept [] w (Lib.bytesWorld w 5 s) := Kept.ofBelow (Lib.bytesWorld_below w 5 s)

theorem parseInt_at (a : Int) (h : -200 ≤ a ∧ a ≤ 200) (w : World) :
    Calls Tryz.prog 70 #[.string ⟨((if a < 0 then 45 else 43) :: Lib.decDigits a.natAbs).toArray⟩, .int .i64 10, .int .i64 32] w fun e w' => e = .returned (.tuple #[.int .i64 a, .nilIface]) ∧ Kept [] w w' := by
  have hl := (dec_at a.natAbs (by omega)).2.2.1
  refine (Tryz.strconv_ParseInt_10_at32_ok ⟨((if a < 0 then 45 else 43) :: Lib.decDigits a.natAbs).toArray⟩ (by show Array.size _ ≤ _; simp; omega) a (by simpa using exL_parse a h) w).mono ?_
  rintro e w' ⟨rfl, rfl | ⟨t, rfl⟩⟩
  · exact ⟨rfl, Kept.refl _ _⟩
  · exact ⟨rfl, Kept.bytesWorld _ _⟩

/-- SetInt64 of 0 onto a nil one leaves a nil one. -/
theorem setUint64_0 (w : World) :
    Calls Tryz.prog 155 #[.slice none 0 0, .int .u64 0] w fun e w' => e = .returned (.slice none 0 0) ∧ Kept [] w w' := by
  go_enter Tryz.func155, Tryz.ntmps155
  go_wp2_with fail
  refine (setWord_nil 0 w (by omega)).mono ?_
  rintro e w' ⟨v', rfl, h1, h2, h3, h4⟩
  obtain rfl := h4 rfl
  have H2 := hid h2
  clear h1 h2 h3 h4
  go_wp2
  go_ret
  exact ⟨rfl, H2.out⟩

theorem intSetInt64_0 (b o : Nat) (zneg : Bool) (cz : Array Value) (tz : TypeId) (w : World)
    (hb : w.heap[b]? = some (.cells cz tz (0, 0))) (h0 : cz[o]? = some (.bool zneg)) (h1 : cz[o + 1]? = some (.slice none 0 0)) :
    Calls Tryz.prog 98 #[.pointer (some ⟨b, o, none⟩), .int .i64 0] w fun e w' => e = .returned (.pointer (some ⟨b, o, none⟩)) ∧ Kept [b] w w' ∧
      w'.heap[b]? = some (.cells ((cz.setIfInBounds (o + 1) (.slice none 0 0)).setIfInBounds o (.bool false)) tz (0, 0)) := by
  have z0 := (cell_of_heap hb o).trans h0
  have z1 := (cell_of_heap hb (o + 1)).trans h1
  have fz0 := frozen_of_heap hb o
  have fz1 := frozen_of_heap hb (o + 1)
  have HB := hid hb
  clear hb h0 h1
  go_enter Tryz.func98, Tryz.ntmps98
  go_wp2_with fail
  refine (setUint64_0 w).mono ?_
  rintro e w1 ⟨rfl, hkp⟩
  have k0 := hkp.cellOf z0 (by simp)
  have k1 := hkp.cellOf z1 (by simp)
  have k2 := (hkp.frozen (p := ⟨b, o, none⟩) (lt_of_heap HB.out) (by simp)).trans fz0
  have k3 := (hkp.frozen (p := ⟨b, o + 1, none⟩) (lt_of_heap HB.out) (by simp)).trans fz1
  have HK := hid hkp
  clear hkp z0 z1 fz0 fz1
  go_wp2
  go_ret
  have h2 := two_stores HK.out HB.out (o + 1) o (.slice none 0 0) (.bool false)
  exact ⟨rfl, h2.1, h2.2⟩

theorem bigSetInt64_0 (b : Nat) (f : Nat) (neg : Bool) (ex : Int) (w : World)
    (hb : w.heap[b]? = some (.cells #[.int .i8 f, .bool neg, .int .i32 ex, .bool false, .slice none 0 0, .bool false] 69 (0, 0))) :
    Calls Tryz.prog 66 #[.pointer (some ⟨b, 3, none⟩), .int .i64 0] w fun e w' => e = .returned (.pointer (some ⟨b, 3, none⟩)) ∧ Kept [b] w w' ∧
      w'.heap[b]? = some (.cells #[.int .i8 f, .bool neg, .int .i32 ex, .bool false, .slice none 0 0, .bool false] 69 (0, 0)) := by
  have z2 := cell_of_heap hb 5
  have fz2 := frozen_of_heap hb 5
  have hb1 := heap_setCell_self hb 5 (.bool false)
  have hk1 := hid ((Kept.refl [b] w).setCell ⟨b, 5, none⟩ (.bool false) (.inl (by simp)))
  have H := hid (intSetInt64_0 b 3 false _ 69 _ hb1 rfl rfl)
  clear hb hb1
  go_enter Tryz.func66, Tryz.ntmps66
  go_wp2_with fail
  refine (H.out).mono ?_
  rintro e w1 ⟨rfl, hkp, hh⟩
  have HH := hid hh
  have HK := hid hkp
  clear hh hkp
  go_wp2
  go_ret
  exact ⟨rfl, hk1.out.trans HK.out (by simp) (by simp), HH.out⟩
end

end Go.Proofs.YtofmickjbpkgbaaGreatDoor
